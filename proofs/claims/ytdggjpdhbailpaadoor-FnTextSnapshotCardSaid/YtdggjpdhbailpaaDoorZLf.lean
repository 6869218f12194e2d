/- Small functions that the text form reaches (uscale, ident, copied ..), and what they compute: turned from a printed text. Conditions: each theorem's own. -/
import Derived.Test.YtdggjpdhbailpaaDoorZWords
namespace Go.Proofs.YtdggjpdhbailpaaDoor.Lf
open Go.Proofs.YtdggjpdhbailpaaDoor.PFnTextAscii Go.RowKit Go.Proofs.YtdggjpdhbailpaaDoorW.PrintWords Go.Proofs.YtdggjpdhbailpaaDoorW.PrintLast Go.Proofs.YtdggjpdhbailpaaDoorW.PrintMore
attribute [local go_sem] max2_int min2_int max_two min_two max_three min_three max_four min_four   -- for this text's walks alone
set_option linter.unusedVariables false
set_option linter.unusedSimpArgs false

/-! ### strconv_skewed: function 118 -/
def strconv_skewed.f (a0 : Int) : Option (Int) := some ((wrap64 ((wrap64 (a0 * 631305)) - 261663)) / 2097152)
set_option maxHeartbeats 8000000 in
set_option maxRecDepth 100000 in
theorem strconv_skewed.calls (a0 : Int) (r : Int) (w : World) (h : strconv_skewed.f a0 = some r) :
    Calls Tryd.prog 118 #[.int .i64 a0] w fun e w' => e = .returned (.int .i64 r) ∧ Drawn0 w w' := by
  have H : (some ((wrap64 ((wrap64 (a0 * 631305)) - 261663)) / 2097152)) = some r := h
  clear h
  obtain rfl := Option.some.inj H
  go_enter Tryd.func118, Tryd.ntmps118
  go_wp2
  go_ret
  exact ⟨by first | rfl | (simp; done) | (simp [*]; done), by repeat (first | exact Drawn0.refl _ | apply Drawn0.step)⟩

-- NOT PRINTED: function 119 (strconv_prescale)

/-! ### strconv_log2Pow10: function 120 -/
def strconv_log2Pow10.f (a0 : Int) : Option (Int) := some ((wrap64 (a0 * 108853)) / 32768)
set_option maxHeartbeats 8000000 in
set_option maxRecDepth 100000 in
theorem strconv_log2Pow10.calls (a0 : Int) (r : Int) (w : World) (h : strconv_log2Pow10.f a0 = some r) :
    Calls Tryd.prog 120 #[.int .i64 a0] w fun e w' => e = .returned (.int .i64 r) ∧ Drawn0 w w' := by
  have H : (some ((wrap64 (a0 * 108853)) / 32768)) = some r := h
  clear h
  obtain rfl := Option.some.inj H
  go_enter Tryd.func120, Tryd.ntmps120
  go_wp2
  go_ret
  exact ⟨by first | rfl | (simp; done) | (simp [*]; done), by repeat (first | exact Drawn0.refl _ | apply Drawn0.step)⟩

/-! ### bits_Mul64: function 134 -/
def bits_Mul64.f (a0 : Int) (a1 : Int) : Option (Int × Int) := some (IntKind.u64.wrap ((IntKind.u64.wrap ((IntKind.u64.wrap ((a0 / 4294967296) * (a1 / 4294967296))) + ((IntKind.u64.wrap ((IntKind.u64.wrap ((a0 / 4294967296) * (Go.bits .and .u64 a1 4294967295))) + ((IntKind.u64.wrap ((Go.bits .and .u64 a0 4294967295) * (Go.bits .and .u64 a1 4294967295))) / 4294967296))) / 4294967296))) + ((IntKind.u64.wrap ((Go.bits .and .u64 (IntKind.u64.wrap ((IntKind.u64.wrap ((a0 / 4294967296) * (Go.bits .and .u64 a1 4294967295))) + ((IntKind.u64.wrap ((Go.bits .and .u64 a0 4294967295) * (Go.bits .and .u64 a1 4294967295))) / 4294967296))) 4294967295) + (IntKind.u64.wrap ((Go.bits .and .u64 a0 4294967295) * (a1 / 4294967296))))) / 4294967296)), IntKind.u64.wrap (a0 * a1))
set_option maxHeartbeats 8000000 in
set_option maxRecDepth 100000 in
theorem bits_Mul64.calls (a0 : Int) (a1 : Int) (r1 : Int) (r2 : Int) (w : World) (h : bits_Mul64.f a0 a1 = some (r1, r2)) :
    Calls Tryd.prog 134 #[.int .u64 a0, .int .u64 a1] w fun e w' => e = .returned (.tuple #[.int .u64 r1, .int .u64 r2]) ∧ Drawn0 w w' := by
  have H : (some (IntKind.u64.wrap ((IntKind.u64.wrap ((IntKind.u64.wrap ((a0 / 4294967296) * (a1 / 4294967296))) + ((IntKind.u64.wrap ((IntKind.u64.wrap ((a0 / 4294967296) * (Go.bits .and .u64 a1 4294967295))) + ((IntKind.u64.wrap ((Go.bits .and .u64 a0 4294967295) * (Go.bits .and .u64 a1 4294967295))) / 4294967296))) / 4294967296))) + ((IntKind.u64.wrap ((Go.bits .and .u64 (IntKind.u64.wrap ((IntKind.u64.wrap ((a0 / 4294967296) * (Go.bits .and .u64 a1 4294967295))) + ((IntKind.u64.wrap ((Go.bits .and .u64 a0 4294967295) * (Go.bits .and .u64 a1 4294967295))) / 4294967296))) 4294967295) + (IntKind.u64.wrap ((Go.bits .and .u64 a0 4294967295) * (a1 / 4294967296))))) / 4294967296)), IntKind.u64.wrap (a0 * a1))) = some (r1, r2) := h
  clear h
  simp only [Option.some.injEq, Prod.mk.injEq] at H
  obtain ⟨rfl, rfl⟩ := H
  go_enter Tryd.func134, Tryd.ntmps134
  go_wp2
  go_ret2
  exact ⟨by first | rfl | (simp; done) | (simp [*]; done), by repeat (first | exact Drawn0.refl _ | apply Drawn0.step)⟩

/-! ### strconv_bool2_uint64: function 135 -/
def strconv_bool2_uint64.f (a0 : Bool) : Option (Int) := if a0 = true then (some 1) else (some 0)
set_option maxHeartbeats 8000000 in
set_option maxRecDepth 100000 in
theorem strconv_bool2_uint64.calls (a0 : Bool) (r : Int) (w : World) (h : strconv_bool2_uint64.f a0 = some r) :
    Calls Tryd.prog 135 #[.bool a0] w fun e w' => e = .returned (.int .u64 r) ∧ Drawn0 w w' := by
  have H : (if a0 = true then (some 1) else (some 0)) = some r := h
  clear h
  by_cases c2 : a0 = true
  · subst c2
    have H1 : (some 1) = some r := by rw [if_pos rfl] at H; exact H
    clear H
    have H := H1
    clear H1
    obtain rfl := Option.some.inj H
    go_enter Tryd.func135, Tryd.ntmps135
    go_wp2
    go_ret
    exact ⟨by first | rfl | (simp; done) | (simp [*]; done), by repeat (first | exact Drawn0.refl _ | apply Drawn0.step)⟩
  · replace c2 := Bool.eq_false_iff.mpr c2
    subst c2
    have H1 : (some 0) = some r := by rw [if_neg (show ¬ (false = true) by decide)] at H; exact H
    clear H
    have H := H1
    clear H1
    obtain rfl := Option.some.inj H
    go_enter Tryd.func135, Tryd.ntmps135
    go_wp2
    go_ret
    exact ⟨by first | rfl | (simp; done) | (simp [*]; done), by repeat (first | exact Drawn0.refl _ | apply Drawn0.step)⟩

/-- A state of type 170 at block g of W; what its slices lead to came in by w0. -/
def IsS170 (w0 W : World) (g : Nat) (f0 : Int) (f1 : Int) (f2 : Int) : Prop := W.heap[g]? = some (.cells #[.int .u64 f0, .int .u64 f1, .int .i64 f2] 170 (0, 0)) ∧ w0.heap.size ≤ g
theorem IsS170.grown {w0 W : World} {g : Nat} {f0 : Int} {f1 : Int} {f2 : Int} {W1 : World} {row : Option Nat} (h : IsS170 w0 W g f0 f1 f2) (hw : W.grownBy W1 row) (hne : some g ≠ row) : IsS170 w0 W1 g f0 f1 f2 := by
  obtain ⟨hb, hg⟩ := h
  exact ⟨blk_grown hb hw hne, hg⟩
theorem IsS170.own_neN {w0 W : World} {g : Nat} {f0 : Int} {f1 : Int} {f2 : Int} {α : Type} {d : Kd α} {e : Nat} {base : Nat} {ok : Nat → Prop} {v : Value} {xs : List α} (h : IsS170 w0 W g f0 f1 f2) (ho : Kd.N d e W base ok v xs) (ht : e ≠ 170) : some g ≠ v.ownBlock := by
  obtain ⟨hb, hg⟩ := h
  exact Kd.N_ne ho hb ht
theorem IsS170.fresh {w0 W : World} {g : Nat} {f0 : Int} {f1 : Int} {f2 : Int} (h : IsS170 w0 W g f0 f1 f2) : ∀ k, W.heap.size ≤ k → k ≠ g := by
  obtain ⟨hb, hg⟩ := h
  exact Kd.freshB hb
theorem IsS170.kept {w0 W : World} {g : Nat} {f0 : Int} {f1 : Int} {f2 : Int} {W1 : World} {S : Nat → Prop} (h : IsS170 w0 W g f0 f1 f2) (hk : Kept W W1 S) (hne : ¬ S g) : IsS170 w0 W1 g f0 f1 f2 := by
  obtain ⟨hb, hg⟩ := h
  exact ⟨blk_kept hb hk hne, hg⟩
theorem IsS170.below {w0 W : World} {g : Nat} {f0 : Int} {f1 : Int} {f2 : Int} {W1 : World} (h : IsS170 w0 W g f0 f1 f2) (hw : Below W.heap.size W W1) : IsS170 w0 W1 g f0 f1 f2 := h.grown (grown_of_below hw none) (by simp)
theorem IsS170.alloc {w0 W : World} {g : Nat} {f0 : Int} {f1 : Int} {f2 : Int} (h : IsS170 w0 W g f0 f1 f2) (o : Obj) : IsS170 w0 (W.alloc o) g f0 f1 f2 := h.below (below_alloc (Below.refl _ _) o)
theorem IsS170.drewN {w0 W : World} {g : Nat} {f0 : Int} {f1 : Int} {f2 : Int} (h : IsS170 w0 W g f0 f1 f2) (m : Nat) : IsS170 w0 (W.drewN m) g f0 f1 f2 := h
theorem IsS170.drew {w0 W : World} {g : Nat} {f0 : Int} {f1 : Int} {f2 : Int} (h : IsS170 w0 W g f0 f1 f2) : IsS170 w0 W.drew g f0 f1 f2 := h
theorem IsS170.at_ {w0 W : World} {g : Nat} {f0 : Int} {f1 : Int} {f2 : Int} {w' : World} {m : Nat} (hq : W.drewN m = w') (h : IsS170 w0 W g f0 f1 f2) : IsS170 w0 w' g f0 f1 f2 := by subst hq; exact IsS170.drewN h m
theorem IsS170.apart {w0 W : World} {g : Nat} {f0 : Int} {f1 : Int} {f2 : Int} {α : Type} {d : Kd α} {e : Nat} {base : Nat} {ok : Nat → Prop} {v : Value} {xs : List α} (h : IsS170 w0 W g f0 f1 f2) (ho : d.R e W base ok v xs) (ht : ∀ q, q ∈ e :: d.E → q ≠ 170) : d.R e W base (fun k => ok k ∧ k ≠ g) v xs := by
  obtain ⟨hb, hg⟩ := h
  exact Kd.R_types ho hb ht
theorem IsS170.own_ne {w0 W : World} {g : Nat} {f0 : Int} {f1 : Int} {f2 : Int} {α : Type} {d : Kd α} {e : Nat} {base : Nat} {ok : Nat → Prop} {v : Value} {xs : List α} (h : IsS170 w0 W g f0 f1 f2) (ho : d.R e W base ok v xs) (ht : e ≠ 170) : some g ≠ v.ownBlock := by
  obtain ⟨hb, hg⟩ := h
  exact Kd.R_ne ho hb ht
theorem IsS170.apartQ {w0 W : World} {g : Nat} {f0 : Int} {f1 : Int} {f2 : Int} {α : Type} {d : Kd α} {e : Nat} {base : Nat} {ok : Nat → Prop} {v : Value} {xs : List α} (h : IsS170 w0 W g f0 f1 f2) (ho : d.Q e W base ok v xs) (ht : ∀ q, q ∈ e :: d.E → q ≠ 170) : d.Q e W base (fun k => ok k ∧ k ≠ g) v xs := by
  obtain ⟨hb, hg⟩ := h
  exact Kd.Q_types ho hb ht
theorem IsS170.own_neQ {w0 W : World} {g : Nat} {f0 : Int} {f1 : Int} {f2 : Int} {α : Type} {d : Kd α} {e : Nat} {base : Nat} {ok : Nat → Prop} {v : Value} {xs : List α} (h : IsS170 w0 W g f0 f1 f2) (ho : d.Q e W base ok v xs) (ht : e ≠ 170) : some g ≠ v.ownBlock := by
  obtain ⟨hb, hg⟩ := h
  exact Kd.Q_ne ho hb ht
theorem IsS170.apartS {w0 W : World} {g : Nat} {f0 : Int} {f1 : Int} {f2 : Int} {α : Type} {d : Kd α} {e : Nat} {base : Nat} {ok : Nat → Prop} {v : Value} {xs : List α} (h : IsS170 w0 W g f0 f1 f2) (ho : d.S e W base ok v xs) (ht : ∀ q, q ∈ e :: d.E → q ≠ 170) : d.S e W base (fun k => ok k ∧ k ≠ g) v xs := by
  obtain ⟨hb, hg⟩ := h
  exact Kd.S_types ho hb ht
theorem IsS170.own_neS {w0 W : World} {g : Nat} {f0 : Int} {f1 : Int} {f2 : Int} {α : Type} {d : Kd α} {e : Nat} {base : Nat} {ok : Nat → Prop} {v : Value} {xs : List α} (h : IsS170 w0 W g f0 f1 f2) (ho : d.S e W base ok v xs) (ht : e ≠ 170) : some g ≠ v.ownBlock := by
  obtain ⟨hb, hg⟩ := h
  exact Kd.S_ne ho hb ht
theorem IsS170.lt {w0 W : World} {g : Nat} {f0 : Int} {f1 : Int} {f2 : Int} (h : IsS170 w0 W g f0 f1 f2) : g < W.heap.size := by
  obtain ⟨hb, hg⟩ := h
  exact blk_lt hb
theorem IsS170.ge {w0 W : World} {g : Nat} {f0 : Int} {f1 : Int} {f2 : Int} (h : IsS170 w0 W g f0 f1 f2) : w0.heap.size ≤ g := by
  obtain ⟨hb, hg⟩ := h
  exact hg
theorem IsS170.ne_blk {w0 W : World} {g : Nat} {f0 : Int} {f1 : Int} {f2 : Int} {a : Nat} {cs : Array Value} {t : TypeId} {fr : Nat × Nat} (h : IsS170 w0 W g f0 f1 f2) (hb2 : W.heap[a]? = some (.cells cs t fr)) (ht : t ≠ 170) : g ≠ a := by
  obtain ⟨hb, hg⟩ := h
  rintro rfl
  rw [hb] at hb2
  injection hb2 with hb2
  injection hb2 with _ ht2
  exact ht ht2.symm
theorem IsS170.far {w0 W : World} {g : Nat} {f0 : Int} {f1 : Int} {f2 : Int} {p : Addr} (h : IsS170 w0 W g f0 f1 f2) (hne : g ≠ p.block) (u : Value) : IsS170 w0 (W.setCell p u) g f0 f1 f2 := by
  obtain ⟨hb, hg⟩ := h
  exact ⟨blk_far hb hne u, hg⟩
theorem cellS170_0 {W : World} {g : Nat} {f0 : Int} {f1 : Int} {f2 : Int} (h : W.heap[g]? = some (.cells #[.int .u64 f0, .int .u64 f1, .int .i64 f2] 170 (0, 0))) : W.cell? ⟨g, 0, none⟩ = some (.int .u64 f0) := (blk_cell h 0).trans rfl
theorem IsS170.set_0 {w0 W : World} {g : Nat} {f0 : Int} {f1 : Int} {f2 : Int} (h : IsS170 w0 W g f0 f1 f2) (x : Int) : IsS170 w0 (W.setCell ⟨g, 0, none⟩ (.int .u64 x)) g x f1 f2 := by
  obtain ⟨hb, hg⟩ := h
  exact ⟨by simpa using blk_set hb 0 (.int .u64 x), hg⟩
theorem cellS170_1 {W : World} {g : Nat} {f0 : Int} {f1 : Int} {f2 : Int} (h : W.heap[g]? = some (.cells #[.int .u64 f0, .int .u64 f1, .int .i64 f2] 170 (0, 0))) : W.cell? ⟨g, 1, none⟩ = some (.int .u64 f1) := (blk_cell h 1).trans rfl
theorem IsS170.set_1 {w0 W : World} {g : Nat} {f0 : Int} {f1 : Int} {f2 : Int} (h : IsS170 w0 W g f0 f1 f2) (x : Int) : IsS170 w0 (W.setCell ⟨g, 1, none⟩ (.int .u64 x)) g f0 x f2 := by
  obtain ⟨hb, hg⟩ := h
  exact ⟨by simpa using blk_set hb 1 (.int .u64 x), hg⟩
theorem cellS170_2 {W : World} {g : Nat} {f0 : Int} {f1 : Int} {f2 : Int} (h : W.heap[g]? = some (.cells #[.int .u64 f0, .int .u64 f1, .int .i64 f2] 170 (0, 0))) : W.cell? ⟨g, 2, none⟩ = some (.int .i64 f2) := (blk_cell h 2).trans rfl
theorem IsS170.set_2 {w0 W : World} {g : Nat} {f0 : Int} {f1 : Int} {f2 : Int} (h : IsS170 w0 W g f0 f1 f2) (x : Int) : IsS170 w0 (W.setCell ⟨g, 2, none⟩ (.int .i64 x)) g f0 f1 x := by
  obtain ⟨hb, hg⟩ := h
  exact ⟨by simpa using blk_set hb 2 (.int .i64 x), hg⟩
theorem IsS170.new (w0 W : World) (f0 : Int) (f1 : Int) (f2 : Int) (hB : Below w0.heap.size w0 W) : IsS170 w0 (W.alloc (.cells #[.int .u64 f0, .int .u64 f1, .int .i64 f2] 170)) W.heap.size f0 f1 f2 := ⟨by simpa using heap_alloc_new W _, hB.size⟩

/-! ### strconv_uscale: function 121 -/
def strconv_uscale.f (a0 : Int) (s1_0 : Int) (s1_1 : Int) (s1_2 : Int) : Option (Int × Int × Int × Int) := (bits_Mul64.f a0 s1_0).bind fun bt269 => (if 0 ≤ (Go.bits .and .i64 s1_2 63) then (if (shl .u64 (shr .u64 bt269.1 (Go.bits .and .i64 s1_2 63)) (Go.bits .and .i64 s1_2 63)) = bt269.1 then ((bits_Mul64.f a0 s1_1).bind fun bt271 => ((strconv_bool2_uint64.f (decide (bt269.2 < bt271.1))).bind fun t273 => ((strconv_bool2_uint64.f (decide ((IntKind.u64.wrap (bt269.2 - bt271.1)) > 1))).bind fun t274 => (some (Go.bits .or .u64 (shr .u64 (IntKind.u64.wrap (bt269.1 - t273)) (Go.bits .and .i64 s1_2 63)) t274, s1_0, s1_1, s1_2))))) else (some (Go.bits .or .u64 (shr .u64 bt269.1 (Go.bits .and .i64 s1_2 63)) 1, s1_0, s1_1, s1_2))) else (none))
set_option maxHeartbeats 8000000 in
set_option maxRecDepth 100000 in
theorem strconv_uscale.calls (a0 : Int) (g : Nat) (s1_0 : Int) (s1_1 : Int) (s1_2 : Int) (r1 : Int) (r2 : Int) (r3 : Int) (r4 : Int) (w0 w : World) (hI : IsS170 w0 w g s1_0 s1_1 s1_2) (hB : Below w0.heap.size w0 w) (h : strconv_uscale.f a0 s1_0 s1_1 s1_2 = some (r1, r2, r3, r4)) :
    Calls Tryd.prog 121 #[.int .u64 a0, .pointer (some ⟨g, 0, none⟩)] w fun e w' => e = .returned (.int .u64 r1) ∧ IsS170 w0 w' g r2 r3 r4 ∧ Below w0.heap.size w0 w' ∧ KeepBut w w' g none := by
  have HI1 := Aside0.mk hI
  have HK := Aside0.mk (KeepBut.refl w g none)
  have HL := Aside0.mk hB.size
  clear hI
  have HW0 := Aside0.mk hB.size
  have HB := Aside0.mk hB
  clear hB
  have H : ((bits_Mul64.f a0 s1_0).bind fun bt269 => (if 0 ≤ (Go.bits .and .i64 s1_2 63) then (if (shl .u64 (shr .u64 bt269.1 (Go.bits .and .i64 s1_2 63)) (Go.bits .and .i64 s1_2 63)) = bt269.1 then ((bits_Mul64.f a0 s1_1).bind fun bt271 => ((strconv_bool2_uint64.f (decide (bt269.2 < bt271.1))).bind fun t273 => ((strconv_bool2_uint64.f (decide ((IntKind.u64.wrap (bt269.2 - bt271.1)) > 1))).bind fun t274 => (some (Go.bits .or .u64 (shr .u64 (IntKind.u64.wrap (bt269.1 - t273)) (Go.bits .and .i64 s1_2 63)) t274, s1_0, s1_1, s1_2))))) else (some (Go.bits .or .u64 (shr .u64 bt269.1 (Go.bits .and .i64 s1_2 63)) 1, s1_0, s1_1, s1_2))) else (none))) = some (r1, r2, r3, r4) := h
  clear h
  replace H := Option.bind_eq_some_iff.mp H
  obtain ⟨⟨t269, t270⟩, A30, H⟩ := H
  replace H : (if 0 ≤ (Go.bits .and .i64 s1_2 63) then (if (shl .u64 (shr .u64 t269 (Go.bits .and .i64 s1_2 63)) (Go.bits .and .i64 s1_2 63)) = t269 then ((bits_Mul64.f a0 s1_1).bind fun bt271 => ((strconv_bool2_uint64.f (decide (t270 < bt271.1))).bind fun t273 => ((strconv_bool2_uint64.f (decide ((IntKind.u64.wrap (t270 - bt271.1)) > 1))).bind fun t274 => (some (Go.bits .or .u64 (shr .u64 (IntKind.u64.wrap (t269 - t273)) (Go.bits .and .i64 s1_2 63)) t274, s1_0, s1_1, s1_2))))) else (some (Go.bits .or .u64 (shr .u64 t269 (Go.bits .and .i64 s1_2 63)) 1, s1_0, s1_1, s1_2))) else (none)) = some (r1, r2, r3, r4) := H
  have A3 := Aside0.mk A30
  clear A30
  by_cases c4 : 0 ≤ (Go.bits .and .i64 s1_2 63)
  · rw [if_pos c4] at H
    have c4b0 := eq_true c4
    have c4b1 : decide (0 ≤ (Go.bits .and .i64 s1_2 63)) = true := decide_eq_true c4
    clear c4
    obtain ⟨ji5, hji5⟩ : ∃ j_ : Int, (shr .u64 t269 (Go.bits .and .i64 s1_2 63)) = j_ := ⟨_, rfl⟩
    replace H : (if (shl .u64 (ji5) (Go.bits .and .i64 s1_2 63)) = t269 then ((bits_Mul64.f a0 s1_1).bind fun bt271 => ((strconv_bool2_uint64.f (decide (t270 < bt271.1))).bind fun t273 => ((strconv_bool2_uint64.f (decide ((IntKind.u64.wrap (t270 - bt271.1)) > 1))).bind fun t274 => (some (Go.bits .or .u64 (shr .u64 (IntKind.u64.wrap (t269 - t273)) (Go.bits .and .i64 s1_2 63)) t274, s1_0, s1_1, s1_2))))) else (some (Go.bits .or .u64 (ji5) 1, s1_0, s1_1, s1_2))) = some (r1, r2, r3, r4) := by first | (rw [hji5] at H; exact H) | (simp only [hji5] at H ⊢; exact H)
    (try rw [hji5] at A3)
    have hji5_ : (t269 / 2 ^ min (Go.bits .and .i64 s1_2 63).toNat 64) = ji5 := hji5
    have hji5z : (Go.bits .and .i64 s1_2 63) ≤ 64 → (t269 / 2 ^ (Go.bits .and .i64 s1_2 63).toNat) = ji5 := shr_small hji5
    have c6b0 := eq_true (of_decide_eq_true (by first | (with_reducible assumption) | assumption) : 0 ≤ (Go.bits .and .i64 s1_2 63))
    obtain ⟨ji7, hji7⟩ : ∃ j_ : Int, (shl .u64 (ji5) (Go.bits .and .i64 s1_2 63)) = j_ := ⟨_, rfl⟩
    replace H : (if (ji7) = t269 then ((bits_Mul64.f a0 s1_1).bind fun bt271 => ((strconv_bool2_uint64.f (decide (t270 < bt271.1))).bind fun t273 => ((strconv_bool2_uint64.f (decide ((IntKind.u64.wrap (t270 - bt271.1)) > 1))).bind fun t274 => (some (Go.bits .or .u64 (shr .u64 (IntKind.u64.wrap (t269 - t273)) (Go.bits .and .i64 s1_2 63)) t274, s1_0, s1_1, s1_2))))) else (some (Go.bits .or .u64 (ji5) 1, s1_0, s1_1, s1_2))) = some (r1, r2, r3, r4) := by first | (rw [hji7] at H; exact H) | (simp only [hji7] at H ⊢; exact H)
    (try rw [hji7] at A3)
    have hji7_ : (IntKind.u64.wrap ((ji5) * 2 ^ min (Go.bits .and .i64 s1_2 63).toNat 64)) = ji7 := hji7
    have hji7z : (Go.bits .and .i64 s1_2 63) ≤ 64 → (IntKind.u64.wrap ((ji5) * 2 ^ (Go.bits .and .i64 s1_2 63).toNat)) = ji7 := shl_small hji7
    by_cases c8 : (ji7) = t269
    · rw [if_pos c8] at H
      have c8b0 : ((ji7) == t269) = true := beq_iff_eq.mpr c8
      have c8b1 : ((ji7) != t269) = false := bne_eq_false_iff_eq.mpr c8
      clear c8
      replace H := Option.bind_eq_some_iff.mp H
      obtain ⟨⟨t271, t272⟩, A90, H⟩ := H
      replace H : ((strconv_bool2_uint64.f (decide (t270 < t271))).bind fun t273 => ((strconv_bool2_uint64.f (decide ((IntKind.u64.wrap (t270 - t271)) > 1))).bind fun t274 => (some (Go.bits .or .u64 (shr .u64 (IntKind.u64.wrap (t269 - t273)) (Go.bits .and .i64 s1_2 63)) t274, s1_0, s1_1, s1_2)))) = some (r1, r2, r3, r4) := H
      have A9 := Aside0.mk A90
      clear A90
      replace H := Option.bind_eq_some_iff.mp H
      obtain ⟨t273, A100, H⟩ := H
      replace H : ((strconv_bool2_uint64.f (decide ((IntKind.u64.wrap (t270 - t271)) > 1))).bind fun t274 => (some (Go.bits .or .u64 (shr .u64 (IntKind.u64.wrap (t269 - t273)) (Go.bits .and .i64 s1_2 63)) t274, s1_0, s1_1, s1_2))) = some (r1, r2, r3, r4) := H
      have A10 := Aside0.mk A100
      clear A100
      have c11b0 := eq_true (of_decide_eq_true (by first | (with_reducible assumption) | assumption) : 0 ≤ (Go.bits .and .i64 s1_2 63))
      obtain ⟨ji12, hji12⟩ : ∃ j_ : Int, (shr .u64 (IntKind.u64.wrap (t269 - t273)) (Go.bits .and .i64 s1_2 63)) = j_ := ⟨_, rfl⟩
      replace H : ((strconv_bool2_uint64.f (decide ((IntKind.u64.wrap (t270 - t271)) > 1))).bind fun t274 => (some (Go.bits .or .u64 (ji12) t274, s1_0, s1_1, s1_2))) = some (r1, r2, r3, r4) := by first | (rw [hji12] at H; exact H) | (simp only [hji12] at H ⊢; exact H)
      (try rw [hji12] at A3)
      (try rw [hji12] at A9)
      (try rw [hji12] at A10)
      have hji12_ : ((IntKind.u64.wrap (t269 - t273)) / 2 ^ min (Go.bits .and .i64 s1_2 63).toNat 64) = ji12 := hji12
      have hji12z : (Go.bits .and .i64 s1_2 63) ≤ 64 → ((IntKind.u64.wrap (t269 - t273)) / 2 ^ (Go.bits .and .i64 s1_2 63).toNat) = ji12 := shr_small hji12
      replace H := Option.bind_eq_some_iff.mp H
      obtain ⟨t274, A130, H⟩ := H
      replace H : (some (Go.bits .or .u64 (ji12) t274, s1_0, s1_1, s1_2)) = some (r1, r2, r3, r4) := H
      have A13 := Aside0.mk A130
      clear A130
      simp only [Option.some.injEq, Prod.mk.injEq] at H
      obtain ⟨rfl, rfl, rfl, rfl⟩ := H
      obtain ⟨HGz14, hgz14⟩ := HI1.out
      have hcz14_0 := cellS170_0 HGz14
      have hcz14_1 := cellS170_1 HGz14
      have hcz14_2 := cellS170_2 HGz14
      have hfz14_0 := blk_frozen HGz14 0
      have hfz14_1 := blk_frozen HGz14 1
      have hfz14_2 := blk_frozen HGz14 2
      clear HGz14 hgz14
      go_enter Tryd.func121, Tryd.ntmps121
      go_wp2_with (first | (go_at_call 134; (with_reducible refine (bits_Mul64.calls a0 s1_0 t269 t270 _ A3.out).mono ?_); rintro e w' ⟨rfl, ⟨nd, rfl⟩⟩; (try first | exact ⟨rfl, _, World.drewN_drewN _ _ _⟩ | exact ⟨rfl, _, Eq.trans (World.drewN_drewN _ _ _) (congrArg (World.drewN _) (Nat.add_assoc _ _ _))⟩)) | (go_at_call 134; (with_reducible refine (bits_Mul64.calls a0 s1_1 t271 t272 _ A9.out).mono ?_); rintro e w' ⟨rfl, ⟨nd, rfl⟩⟩; (try first | exact ⟨rfl, _, World.drewN_drewN _ _ _⟩ | exact ⟨rfl, _, Eq.trans (World.drewN_drewN _ _ _) (congrArg (World.drewN _) (Nat.add_assoc _ _ _))⟩)) | (go_at_call 135; (with_reducible refine (strconv_bool2_uint64.calls (decide (t270 < t271)) t273 _ A10.out).mono ?_); rintro e w' ⟨rfl, ⟨nd, rfl⟩⟩; (try first | exact ⟨rfl, _, World.drewN_drewN _ _ _⟩ | exact ⟨rfl, _, Eq.trans (World.drewN_drewN _ _ _) (congrArg (World.drewN _) (Nat.add_assoc _ _ _))⟩)) | (go_at_call 135; (with_reducible refine (strconv_bool2_uint64.calls (decide ((IntKind.u64.wrap (t270 - t271)) > 1)) t274 _ A13.out).mono ?_); rintro e w' ⟨rfl, ⟨nd, rfl⟩⟩; (try first | exact ⟨rfl, _, World.drewN_drewN _ _ _⟩ | exact ⟨rfl, _, Eq.trans (World.drewN_drewN _ _ _) (congrArg (World.drewN _) (Nat.add_assoc _ _ _))⟩)))
      repeat (go_quiet (first | (go_at_call 134; (with_reducible refine (bits_Mul64.calls a0 s1_0 t269 t270 _ A3.out).mono ?_); rintro e w' ⟨rfl, ⟨nd, rfl⟩⟩; (try first | exact ⟨rfl, _, World.drewN_drewN _ _ _⟩ | exact ⟨rfl, _, Eq.trans (World.drewN_drewN _ _ _) (congrArg (World.drewN _) (Nat.add_assoc _ _ _))⟩)) | (go_at_call 134; (with_reducible refine (bits_Mul64.calls a0 s1_1 t271 t272 _ A9.out).mono ?_); rintro e w' ⟨rfl, ⟨nd, rfl⟩⟩; (try first | exact ⟨rfl, _, World.drewN_drewN _ _ _⟩ | exact ⟨rfl, _, Eq.trans (World.drewN_drewN _ _ _) (congrArg (World.drewN _) (Nat.add_assoc _ _ _))⟩)) | (go_at_call 135; (with_reducible refine (strconv_bool2_uint64.calls (decide (t270 < t271)) t273 _ A10.out).mono ?_); rintro e w' ⟨rfl, ⟨nd, rfl⟩⟩; (try first | exact ⟨rfl, _, World.drewN_drewN _ _ _⟩ | exact ⟨rfl, _, Eq.trans (World.drewN_drewN _ _ _) (congrArg (World.drewN _) (Nat.add_assoc _ _ _))⟩)) | (go_at_call 135; (with_reducible refine (strconv_bool2_uint64.calls (decide ((IntKind.u64.wrap (t270 - t271)) > 1)) t274 _ A13.out).mono ?_); rintro e w' ⟨rfl, ⟨nd, rfl⟩⟩; (try first | exact ⟨rfl, _, World.drewN_drewN _ _ _⟩ | exact ⟨rfl, _, Eq.trans (World.drewN_drewN _ _ _) (congrArg (World.drewN _) (Nat.add_assoc _ _ _))⟩))); try go_wp2_with (first | (go_at_call 134; (with_reducible refine (bits_Mul64.calls a0 s1_0 t269 t270 _ A3.out).mono ?_); rintro e w' ⟨rfl, ⟨nd, rfl⟩⟩; (try first | exact ⟨rfl, _, World.drewN_drewN _ _ _⟩ | exact ⟨rfl, _, Eq.trans (World.drewN_drewN _ _ _) (congrArg (World.drewN _) (Nat.add_assoc _ _ _))⟩)) | (go_at_call 134; (with_reducible refine (bits_Mul64.calls a0 s1_1 t271 t272 _ A9.out).mono ?_); rintro e w' ⟨rfl, ⟨nd, rfl⟩⟩; (try first | exact ⟨rfl, _, World.drewN_drewN _ _ _⟩ | exact ⟨rfl, _, Eq.trans (World.drewN_drewN _ _ _) (congrArg (World.drewN _) (Nat.add_assoc _ _ _))⟩)) | (go_at_call 135; (with_reducible refine (strconv_bool2_uint64.calls (decide (t270 < t271)) t273 _ A10.out).mono ?_); rintro e w' ⟨rfl, ⟨nd, rfl⟩⟩; (try first | exact ⟨rfl, _, World.drewN_drewN _ _ _⟩ | exact ⟨rfl, _, Eq.trans (World.drewN_drewN _ _ _) (congrArg (World.drewN _) (Nat.add_assoc _ _ _))⟩)) | (go_at_call 135; (with_reducible refine (strconv_bool2_uint64.calls (decide ((IntKind.u64.wrap (t270 - t271)) > 1)) t274 _ A13.out).mono ?_); rintro e w' ⟨rfl, ⟨nd, rfl⟩⟩; (try first | exact ⟨rfl, _, World.drewN_drewN _ _ _⟩ | exact ⟨rfl, _, Eq.trans (World.drewN_drewN _ _ _) (congrArg (World.drewN _) (Nat.add_assoc _ _ _))⟩))))
      go_ret
      exact ⟨by first | rfl | (simp [errW_none, errW_some] <;> rfl) | (simp only [← hji5, ← hji7, ← hji12]; first | rfl | (simp [errW_none, errW_some] <;> rfl)) | (simp [*, errW_none, errW_some] <;> rfl), by repeat (first | (with_reducible first | exact HI1.out | apply IsS170.alloc | apply IsS170.drewN | apply IsS170.drew | apply IsS170.set_0 | apply IsS170.set_1 | apply IsS170.set_2) | exact HI1.out), by repeat (first | (with_reducible first | exact HB.out | apply below_alloc | apply pw_below_drewN | apply below_drew1 | refine below_set ?_ (IsS170.ge HI1.out)) | exact HB.out), by repeat (first | (with_reducible first | exact HK.out | apply KeepBut.set_ | apply keep_drewN | apply keep_drew | apply keep_alloc) | exact HK.out)⟩
    · rw [if_neg c8] at H
      have c8b0 : ((ji7) == t269) = false := beq_eq_false_iff_ne.mpr c8
      have c8b1 : ((ji7) != t269) = true := bne_iff_ne.mpr c8
      have c15b0 := eq_true (of_decide_eq_true (by first | (with_reducible assumption) | assumption) : 0 ≤ (Go.bits .and .i64 s1_2 63))
      simp only [Option.some.injEq, Prod.mk.injEq] at H
      obtain ⟨rfl, rfl, rfl, rfl⟩ := H
      obtain ⟨HGz17, hgz17⟩ := HI1.out
      have hcz17_0 := cellS170_0 HGz17
      have hcz17_1 := cellS170_1 HGz17
      have hcz17_2 := cellS170_2 HGz17
      have hfz17_0 := blk_frozen HGz17 0
      have hfz17_1 := blk_frozen HGz17 1
      have hfz17_2 := blk_frozen HGz17 2
      clear HGz17 hgz17
      go_enter Tryd.func121, Tryd.ntmps121
      go_wp2_with (first | (go_at_call 134; (with_reducible refine (bits_Mul64.calls a0 s1_0 t269 t270 _ A3.out).mono ?_); rintro e w' ⟨rfl, ⟨nd, rfl⟩⟩; (try first | exact ⟨rfl, _, World.drewN_drewN _ _ _⟩ | exact ⟨rfl, _, Eq.trans (World.drewN_drewN _ _ _) (congrArg (World.drewN _) (Nat.add_assoc _ _ _))⟩)))
      repeat (go_quiet (first | (go_at_call 134; (with_reducible refine (bits_Mul64.calls a0 s1_0 t269 t270 _ A3.out).mono ?_); rintro e w' ⟨rfl, ⟨nd, rfl⟩⟩; (try first | exact ⟨rfl, _, World.drewN_drewN _ _ _⟩ | exact ⟨rfl, _, Eq.trans (World.drewN_drewN _ _ _) (congrArg (World.drewN _) (Nat.add_assoc _ _ _))⟩))); try go_wp2_with (first | (go_at_call 134; (with_reducible refine (bits_Mul64.calls a0 s1_0 t269 t270 _ A3.out).mono ?_); rintro e w' ⟨rfl, ⟨nd, rfl⟩⟩; (try first | exact ⟨rfl, _, World.drewN_drewN _ _ _⟩ | exact ⟨rfl, _, Eq.trans (World.drewN_drewN _ _ _) (congrArg (World.drewN _) (Nat.add_assoc _ _ _))⟩))))
      go_ret
      exact ⟨by first | rfl | (simp [errW_none, errW_some] <;> rfl) | (simp only [← hji5, ← hji7]; first | rfl | (simp [errW_none, errW_some] <;> rfl)) | (simp [*, errW_none, errW_some] <;> rfl), by repeat (first | (with_reducible first | exact HI1.out | apply IsS170.alloc | apply IsS170.drewN | apply IsS170.drew | apply IsS170.set_0 | apply IsS170.set_1 | apply IsS170.set_2) | exact HI1.out), by repeat (first | (with_reducible first | exact HB.out | apply below_alloc | apply pw_below_drewN | apply below_drew1 | refine below_set ?_ (IsS170.ge HI1.out)) | exact HB.out), by repeat (first | (with_reducible first | exact HK.out | apply KeepBut.set_ | apply keep_drewN | apply keep_drew | apply keep_alloc) | exact HK.out)⟩
  · rw [if_neg c4] at H
    exact absurd H (by simp)

/-! ### strconv_unrounded_nudge: function 122 -/
def strconv_unrounded_nudge.f (a0 : Int) (a1 : Int) : Option (Int) := some (IntKind.u64.wrap (a0 + (IntKind.u64.wrap (a1))))
set_option maxHeartbeats 8000000 in
set_option maxRecDepth 100000 in
theorem strconv_unrounded_nudge.calls (a0 : Int) (a1 : Int) (r : Int) (w : World) (h : strconv_unrounded_nudge.f a0 a1 = some r) :
    Calls Tryd.prog 122 #[.int .u64 a0, .int .i64 a1] w fun e w' => e = .returned (.int .u64 r) ∧ Drawn0 w w' := by
  have H : (some (IntKind.u64.wrap (a0 + (IntKind.u64.wrap (a1))))) = some r := h
  clear h
  obtain rfl := Option.some.inj H
  go_enter Tryd.func122, Tryd.ntmps122
  go_wp2
  go_ret
  exact ⟨by first | rfl | (simp; done) | (simp [*]; done), by repeat (first | exact Drawn0.refl _ | apply Drawn0.step)⟩

/-! ### strconv_unrounded_ceil: function 123 -/
def strconv_unrounded_ceil.f (a0 : Int) : Option (Int) := some ((IntKind.u64.wrap (a0 + 3)) / 4)
set_option maxHeartbeats 8000000 in
set_option maxRecDepth 100000 in
theorem strconv_unrounded_ceil.calls (a0 : Int) (r : Int) (w : World) (h : strconv_unrounded_ceil.f a0 = some r) :
    Calls Tryd.prog 123 #[.int .u64 a0] w fun e w' => e = .returned (.int .u64 r) ∧ Drawn0 w w' := by
  have H : (some ((IntKind.u64.wrap (a0 + 3)) / 4)) = some r := h
  clear h
  obtain rfl := Option.some.inj H
  go_enter Tryd.func123, Tryd.ntmps123
  go_wp2
  go_ret
  exact ⟨by first | rfl | (simp; done) | (simp [*]; done), by repeat (first | exact Drawn0.refl _ | apply Drawn0.step)⟩

/-! ### strconv_unrounded_floor: function 124 -/
def strconv_unrounded_floor.f (a0 : Int) : Option (Int) := some ((IntKind.u64.wrap (a0 + 0)) / 4)
set_option maxHeartbeats 8000000 in
set_option maxRecDepth 100000 in
theorem strconv_unrounded_floor.calls (a0 : Int) (r : Int) (w : World) (h : strconv_unrounded_floor.f a0 = some r) :
    Calls Tryd.prog 124 #[.int .u64 a0] w fun e w' => e = .returned (.int .u64 r) ∧ Drawn0 w w' := by
  have H : (some ((IntKind.u64.wrap (a0 + 0)) / 4)) = some r := h
  clear h
  obtain rfl := Option.some.inj H
  go_enter Tryd.func124, Tryd.ntmps124
  go_wp2
  go_ret
  exact ⟨by first | rfl | (simp; done) | (simp [*]; done), by repeat (first | exact Drawn0.refl _ | apply Drawn0.step)⟩

/-! ### strconv_unrounded_round: function 125 -/
def strconv_unrounded_round.f (a0 : Int) : Option (Int) := some ((IntKind.u64.wrap ((IntKind.u64.wrap (a0 + 1)) + (Go.bits .and .u64 (a0 / 4) 1))) / 4)
set_option maxHeartbeats 8000000 in
set_option maxRecDepth 100000 in
theorem strconv_unrounded_round.calls (a0 : Int) (r : Int) (w : World) (h : strconv_unrounded_round.f a0 = some r) :
    Calls Tryd.prog 125 #[.int .u64 a0] w fun e w' => e = .returned (.int .u64 r) ∧ Drawn0 w w' := by
  have H : (some ((IntKind.u64.wrap ((IntKind.u64.wrap (a0 + 1)) + (Go.bits .and .u64 (a0 / 4) 1))) / 4)) = some r := h
  clear h
  obtain rfl := Option.some.inj H
  go_enter Tryd.func125, Tryd.ntmps125
  go_wp2
  go_ret
  exact ⟨by first | rfl | (simp; done) | (simp [*]; done), by repeat (first | exact Drawn0.refl _ | apply Drawn0.step)⟩

-- NOT PRINTED: function 106 (strconv_shortFloat_float32)

-- NOT PRINTED: function 107 (strconv_setDigits)

/-! ### strconv_unmin: function 126 -/
def strconv_unmin.f (a0 : Int) : Option (Int) := some (IntKind.u64.wrap ((IntKind.u64.wrap (a0 * 4)) - 2))
set_option maxHeartbeats 8000000 in
set_option maxRecDepth 100000 in
theorem strconv_unmin.calls (a0 : Int) (r : Int) (w : World) (h : strconv_unmin.f a0 = some r) :
    Calls Tryd.prog 126 #[.int .u64 a0] w fun e w' => e = .returned (.int .u64 r) ∧ Drawn0 w w' := by
  have H : (some (IntKind.u64.wrap ((IntKind.u64.wrap (a0 * 4)) - 2))) = some r := h
  clear h
  obtain rfl := Option.some.inj H
  go_enter Tryd.func126, Tryd.ntmps126
  go_wp2
  go_ret
  exact ⟨by first | rfl | (simp; done) | (simp [*]; done), by repeat (first | exact Drawn0.refl _ | apply Drawn0.step)⟩

/-! ### strconv_unrounded: function 136 -/
def strconv_unrounded.f (a0 : Bool) : Option (Int) := if a0 = true then (some 1) else (some 0)
set_option maxHeartbeats 8000000 in
set_option maxRecDepth 100000 in
theorem strconv_unrounded.calls (a0 : Bool) (r : Int) (w : World) (h : strconv_unrounded.f a0 = some r) :
    Calls Tryd.prog 136 #[.bool a0] w fun e w' => e = .returned (.int .u64 r) ∧ Drawn0 w w' := by
  have H : (if a0 = true then (some 1) else (some 0)) = some r := h
  clear h
  by_cases c2 : a0 = true
  · subst c2
    have H1 : (some 1) = some r := by rw [if_pos rfl] at H; exact H
    clear H
    have H := H1
    clear H1
    obtain rfl := Option.some.inj H
    go_enter Tryd.func136, Tryd.ntmps136
    go_wp2
    go_ret
    exact ⟨by first | rfl | (simp; done) | (simp [*]; done), by repeat (first | exact Drawn0.refl _ | apply Drawn0.step)⟩
  · replace c2 := Bool.eq_false_iff.mpr c2
    subst c2
    have H1 : (some 0) = some r := by rw [if_neg (show ¬ (false = true) by decide)] at H; exact H
    clear H
    have H := H1
    clear H1
    obtain rfl := Option.some.inj H
    go_enter Tryd.func136, Tryd.ntmps136
    go_wp2
    go_ret
    exact ⟨by first | rfl | (simp; done) | (simp [*]; done), by repeat (first | exact Drawn0.refl _ | apply Drawn0.step)⟩

/-! ### strconv_unrounded_div: function 127 -/
def strconv_unrounded_div.f (a0 : Int) (a1 : Int) : Option (Int) := if a1 = 0 then (none) else ((strconv_unrounded.f ((Int.tmod a0 a1) != 0)).bind fun t281 => (some (Go.bits .or .u64 (Go.bits .or .u64 (IntKind.u64.wrap (Int.tdiv a0 a1)) (Go.bits .and .u64 a0 1)) t281)))
set_option maxHeartbeats 8000000 in
set_option maxRecDepth 100000 in
theorem strconv_unrounded_div.calls (a0 : Int) (a1 : Int) (r : Int) (w : World) (h : strconv_unrounded_div.f a0 a1 = some r) :
    Calls Tryd.prog 127 #[.int .u64 a0, .int .u64 a1] w fun e w' => e = .returned (.int .u64 r) ∧ Drawn0 w w' := by
  have H : (if a1 = 0 then (none) else ((strconv_unrounded.f ((Int.tmod a0 a1) != 0)).bind fun t281 => (some (Go.bits .or .u64 (Go.bits .or .u64 (IntKind.u64.wrap (Int.tdiv a0 a1)) (Go.bits .and .u64 a0 1)) t281)))) = some r := h
  clear h
  by_cases c3 : a1 = 0
  · rw [if_pos c3] at H
    exact absurd H (by simp)
  · rw [if_neg c3] at H
    have c3b0 : (a1 == 0) = false := beq_eq_false_iff_ne.mpr c3
    have c3b1 : (a1 != 0) = true := bne_iff_ne.mpr c3
    replace H := Option.bind_eq_some_iff.mp H
    obtain ⟨t281, A40, H⟩ := H
    replace H : (some (Go.bits .or .u64 (Go.bits .or .u64 (IntKind.u64.wrap (Int.tdiv a0 a1)) (Go.bits .and .u64 a0 1)) t281)) = some r := H
    have A4 := Aside0.mk A40
    clear A40
    obtain rfl := Option.some.inj H
    go_enter Tryd.func127, Tryd.ntmps127
    go_wp2_with (first | (go_at_call 136; (with_reducible refine (strconv_unrounded.calls ((Int.tmod a0 a1) != 0) t281 _ A4.out).mono ?_); rintro e w' ⟨rfl, ⟨nd, rfl⟩⟩; (try first | exact ⟨rfl, _, World.drewN_drewN _ _ _⟩ | exact ⟨rfl, _, Eq.trans (World.drewN_drewN _ _ _) (congrArg (World.drewN _) (Nat.add_assoc _ _ _))⟩)))
    repeat (go_quiet (first | (go_at_call 136; (with_reducible refine (strconv_unrounded.calls ((Int.tmod a0 a1) != 0) t281 _ A4.out).mono ?_); rintro e w' ⟨rfl, ⟨nd, rfl⟩⟩; (try first | exact ⟨rfl, _, World.drewN_drewN _ _ _⟩ | exact ⟨rfl, _, Eq.trans (World.drewN_drewN _ _ _) (congrArg (World.drewN _) (Nat.add_assoc _ _ _))⟩))); try go_wp2_with (first | (go_at_call 136; (with_reducible refine (strconv_unrounded.calls ((Int.tmod a0 a1) != 0) t281 _ A4.out).mono ?_); rintro e w' ⟨rfl, ⟨nd, rfl⟩⟩; (try first | exact ⟨rfl, _, World.drewN_drewN _ _ _⟩ | exact ⟨rfl, _, Eq.trans (World.drewN_drewN _ _ _) (congrArg (World.drewN _) (Nat.add_assoc _ _ _))⟩))))
    go_ret
    exact ⟨by first | rfl | (simp; done) | (simp [*]; done), by repeat (first | exact Drawn0.refl _ | apply Drawn0.step)⟩

-- NOT PRINTED: function 108 (strconv_fixedWidthFloat)

-- NOT PRINTED: function 128 (strconv_trim)

-- NOT PRINTED: function 109 (strconv_decimal_Assign)

/-! ### strconv_prefixIsLessThan: function 137 -/
def strconv_prefixIsLessThan.l0 : Nat → List Int → ByteArray → Int → Option (Bool)
  | 0, _, _, _ => none
  | k + 1, x0, x1, x5 => if x5 < (x1.size : Int) then (if x5 ≥ (x0.length : Int) then (some true) else (if 0 ≤ x5 then (if x5 < (x0.length : Int) then (if (rd x0 x5) = (bt x1 x5) then (strconv_prefixIsLessThan.l0 k x0 x1 (wrap64 (x5 + 1))) else (some (decide ((rd x0 x5) < (bt x1 x5))))) else (none)) else (none))) else (some false)
def strconv_prefixIsLessThan.f (k : Nat) (l0 : List Int) (a1 : ByteArray) : Option (Bool) := strconv_prefixIsLessThan.l0 k l0 a1 0
theorem strconv_prefixIsLessThan.mono_l : ∀ k, (∀ y0 y1 y2, LeO (strconv_prefixIsLessThan.l0 k y0 y1 y2) (strconv_prefixIsLessThan.l0 (k + 1) y0 y1 y2))
  | 0 => fun _ _ _ r h => by simp [strconv_prefixIsLessThan.l0] at h
  | k + 1 => by
    have ih0 := strconv_prefixIsLessThan.mono_l k
    · intro y0 y1 y2
      unfold strconv_prefixIsLessThan.l0
      repeat' first
      | (with_reducible exact ih0 _ _ _)
      | (with_reducible exact LeO.refl _)
      | (with_reducible exact LeO.none _)
      | (with_reducible refine LeO.ite ?_ ?_)
      | (with_reducible refine LeO.bind ?_ (fun _ => ?_))
      | exact ih0 _ _ _
      | exact LeO.none _
      | refine LeO.ite ?_ ?_
      | refine LeO.bind ?_ (fun _ => ?_)
theorem strconv_prefixIsLessThan.mono : ∀ a0 a1 k, LeO (strconv_prefixIsLessThan.f k a0 a1) (strconv_prefixIsLessThan.f (k + 1) a0 a1) := by
  intro a0 a1 k
  have ih0 := strconv_prefixIsLessThan.mono_l k
  unfold strconv_prefixIsLessThan.f
  repeat' first
      | (with_reducible exact ih0 _ _ _)
      | (with_reducible exact LeO.refl _)
      | (with_reducible exact LeO.none _)
      | (with_reducible refine LeO.ite ?_ ?_)
      | (with_reducible refine LeO.bind ?_ (fun _ => ?_))
      | exact ih0 _ _ _
      | exact LeO.none _
      | refine LeO.ite ?_ ?_
      | refine LeO.bind ?_ (fun _ => ?_)
set_option maxHeartbeats 8000000 in
set_option maxRecDepth 100000 in
theorem strconv_prefixIsLessThan.calls (k : Nat) (A0 : Option Addr) (c0 : Nat) (l0 : List Int) (a1 : ByteArray) (r : Bool) (w : World) (hr0 : Kd.C (Kd.int .u8) w A0 l0.length l0) (hc0 : l0.length ≤ c0) (h : strconv_prefixIsLessThan.f k l0 a1 = some r) :
    Calls Tryd.prog 137 #[.slice A0 l0.length c0, .string a1] w fun e w' => e = .returned (.bool r) ∧ Drawn0 w w' := by
  have HR0 := Aside0.mk hr0
  have HC0 := Aside0.mk hc0
  clear hr0 hc0
  have H : (strconv_prefixIsLessThan.l0 k l0 a1 0) = some r := h
  clear h
  have H' := Aside0.mk H
  clear H
  go_enter Tryd.func137, Tryd.ntmps137
  go_wp2
  repeat (go_quiet (fail); try go_wp2)
  go_loopg [5] k (fun kq v5 w' => ∃ (x5_1 : Int), v5 = .int .i64 x5_1 ∧ Aside0 (strconv_prefixIsLessThan.l0 kq l0 a1 x5_1 = some r) ∧ Aside0 (kq ≤ k) ∧ Drawn0 w w')
  case atStart => exact ⟨(0), (by first | rfl | (simp; done) | (simp [*]; done)), H', ⟨Nat.le_refl _⟩, by repeat (first | exact Drawn0.refl _ | apply Drawn0.step)⟩
  case round =>
    clear H'
    try clear c1
    try clear p2
    obtain ⟨x5_1, rfl, HA, HK1, ⟨m1, rfl⟩⟩ := hrel
    cases gk with
    | zero => exact absurd HA.out (by simp [strconv_prefixIsLessThan.l0])
    | succ k1 =>
      have H := HA.out
      clear HA
      simp only [strconv_prefixIsLessThan.l0] at H
      by_cases c3 : x5_1 < (a1.size : Int)
      · rw [if_pos c3] at H
        have c3b0 : decide (x5_1 < (a1.size : Int)) = true := decide_eq_true c3
        clear c3
        by_cases c4 : x5_1 ≥ (l0.length : Int)
        · rw [if_pos c4] at H
          have c4b0 : decide ((l0.length : Int) ≤ x5_1) = true := decide_eq_true c4
          clear c4
          obtain rfl := Option.some.inj H
          go_wp2
          repeat (go_quiet (fail); try go_wp2)
          go_ret
          exact ⟨by first | rfl | (simp; done) | (simp [*]; done), by repeat (first | exact Drawn0.refl _ | apply Drawn0.step)⟩
        · rw [if_neg c4] at H
          have c4b0 : decide ((l0.length : Int) ≤ x5_1) = false := decide_eq_false c4
          clear c4
          by_cases c5 : 0 ≤ x5_1
          · rw [if_pos c5] at H
            have c5b0 : decide (0 ≤ x5_1) = true := decide_eq_true c5
            clear c5
            by_cases c6 : x5_1 < (l0.length : Int)
            · rw [if_pos c6] at H
              have c6b0 : decide (x5_1 < (l0.length : Int)) = true := decide_eq_true c6
              clear c6
              by_cases c8 : (rd l0 x5_1) = (bt a1 x5_1)
              · rw [if_pos c8] at H
                have c8b0 : ((rd l0 x5_1) == (bt a1 x5_1)) = true := beq_iff_eq.mpr c8
                have c8b1 : ((rd l0 x5_1) != (bt a1 x5_1)) = false := bne_eq_false_iff_eq.mpr c8
                clear c8
                have H' := Aside0.mk H
                clear H
                have p285 : 0 ≤ (x5_1 : Int) := of_decide_eq_true (by first | (with_reducible assumption) | assumption)
                have q285 : x5_1 < (l0.length : Int) := of_decide_eq_true (by first | (with_reducible assumption) | assumption)
                obtain ⟨ad285, e285, hx285_0⟩ := Kd.at_int HR0.out x5_1 p285 q285
                cases e285
                replace p285 := eq_true p285
                replace q285 := eq_true q285
                have p7 : 0 ≤ (x5_1 : Int) := of_decide_eq_true (by first | (with_reducible assumption) | assumption)
                have q7 : x5_1 < (a1.size : Int) := of_decide_eq_true (by first | (with_reducible assumption) | assumption)
                have hx7 := bt_at a1 x5_1
                replace p7 := eq_true p7
                replace q7 := eq_true q7
                go_wp2
                repeat (go_quiet (fail); try go_wp2)
                go_roundg k1
                case measure => have := HK1.out; omega
                case rel => exact ⟨(wrap64 (x5_1 + 1)), (by first | rfl | (simp; done) | (simp [*]; done)), H', ⟨by have := HK1.out; omega⟩, by repeat (first | exact Drawn0.refl _ | apply Drawn0.step)⟩
              · rw [if_neg c8] at H
                have c8b0 : ((rd l0 x5_1) == (bt a1 x5_1)) = false := beq_eq_false_iff_ne.mpr c8
                have c8b1 : ((rd l0 x5_1) != (bt a1 x5_1)) = true := bne_iff_ne.mpr c8
                obtain rfl := Option.some.inj H
                have p285 : 0 ≤ (x5_1 : Int) := of_decide_eq_true (by first | (with_reducible assumption) | assumption)
                have q285 : x5_1 < (l0.length : Int) := of_decide_eq_true (by first | (with_reducible assumption) | assumption)
                obtain ⟨ad285, e285, hx285_0⟩ := Kd.at_int HR0.out x5_1 p285 q285
                cases e285
                replace p285 := eq_true p285
                replace q285 := eq_true q285
                have p7 : 0 ≤ (x5_1 : Int) := of_decide_eq_true (by first | (with_reducible assumption) | assumption)
                have q7 : x5_1 < (a1.size : Int) := of_decide_eq_true (by first | (with_reducible assumption) | assumption)
                have hx7 := bt_at a1 x5_1
                replace p7 := eq_true p7
                replace q7 := eq_true q7
                have p286 : 0 ≤ (x5_1 : Int) := of_decide_eq_true (by first | (with_reducible assumption) | assumption)
                have q286 : x5_1 < (l0.length : Int) := of_decide_eq_true (by first | (with_reducible assumption) | assumption)
                obtain ⟨ad286, e286, hx286_0⟩ := Kd.at_int HR0.out x5_1 p286 q286
                obtain rfl : ad285 = ad286 := (by injection e286)
                replace p286 := eq_true p286
                replace q286 := eq_true q286
                have p9 : 0 ≤ (x5_1 : Int) := of_decide_eq_true (by first | (with_reducible assumption) | assumption)
                have q9 : x5_1 < (a1.size : Int) := of_decide_eq_true (by first | (with_reducible assumption) | assumption)
                have hx9 := bt_at a1 x5_1
                replace p9 := eq_true p9
                replace q9 := eq_true q9
                go_wp2
                repeat (go_quiet (fail); try go_wp2)
                go_ret
                exact ⟨by first | rfl | (simp; done) | (simp [*]; done), by repeat (first | exact Drawn0.refl _ | apply Drawn0.step)⟩
            · rw [if_neg c6] at H
              exact absurd H (by simp)
          · rw [if_neg c5] at H
            exact absurd H (by simp)
      · rw [if_neg c3] at H
        have c3b0 : decide (x5_1 < (a1.size : Int)) = false := decide_eq_false c3
        clear c3
        obtain rfl := Option.some.inj H
        go_wp2
        repeat (go_quiet (fail); try go_wp2)
        go_ret
        exact ⟨by first | rfl | (simp; done) | (simp [*]; done), by repeat (first | exact Drawn0.refl _ | apply Drawn0.step)⟩

-- NOT PRINTED: function 129 (strconv_leftShift)

-- NOT PRINTED: function 130 (strconv_rightShift)

-- NOT PRINTED: function 110 (strconv_decimal_Shift)

-- NOT PRINTED: function 131 (strconv_shouldRoundUp)

-- NOT PRINTED: function 132 (strconv_decimal_RoundUp)

-- NOT PRINTED: function 133 (strconv_decimal_RoundDown)

-- NOT PRINTED: function 111 (strconv_decimal_Round)

-- NOT PRINTED: function 86 (strconv_ftoa32)

-- NOT PRINTED: function 112 (strconv_shortFloat_float64)

-- NOT PRINTED: function 87 (strconv_ftoa64)

-- NOT PRINTED: function 114 (strconv_AppendFloat_114)

-- NOT PRINTED: function 93 (strconv_AppendFloat_93)

-- NOT PRINTED: function 79 (text_appendFloat)

-- NOT PRINTED: function 59 (text_Encoder_WriteFloat)

-- NOT PRINTED: function 80 (strconv_AppendInt_80)

-- NOT PRINTED: function 60 (text_Encoder_WriteInt)

-- NOT PRINTED: function 61 (text_Encoder_WriteUint)

-- NOT PRINTED: function 63 (text_Encoder_StartMessage)

-- NOT PRINTED: function 64 (text_Encoder_EndMessage)

-- NOT PRINTED: function 22 (impl_textDo)

/-! ### impl_copied: function 23 -/
def impl_copied.f (l0 : List Int) : Option (List Int) := (some (([] : List Int) : List Int)).bind fun y292 => (if y292.length + l0.length < 140737488355328 then (some (y292 ++ l0)) else (none))
set_option maxHeartbeats 8000000 in
set_option maxRecDepth 100000 in
theorem impl_copied.calls (A0 : Option Addr) (c0 : Nat) (l0 : List Int) (r : List Int) (w : World) (hr0 : Kd.C (Kd.int .u8) w A0 l0.length l0) (hc0 : l0.length ≤ c0) (h : impl_copied.f l0 = some r) :
    Calls Tryd.prog 23 #[.slice A0 l0.length c0] w fun e w' => ∃ v0_ : Value, e = .returned (v0_) ∧ Kd.R (Kd.int .u8) 5 w' w.heap.size (fun _ => True) v0_ r ∧ Below w.heap.size w w' := by
  have HR0 := Aside0.mk hr0
  have HC0 := Aside0.mk hc0
  clear hr0 hc0
  have HB := Aside0.mk (Below.refl w.heap.size w)
  have H : ((some (([] : List Int) : List Int)).bind fun y292 => (if y292.length + l0.length < 140737488355328 then (some (y292 ++ l0)) else (none))) = some r := h
  clear h
  obtain ⟨y292, hy292⟩ : ∃ y_ : List Int, y_ = (([] : List Int)) := ⟨_, rfl⟩
  replace H : (if y292.length + l0.length < 140737488355328 then (some (y292 ++ l0)) else (none)) = some r := by first | (rw [hy292]; with_reducible exact H) | (have H2_ := (Option.bind_some _ _).symm.trans H; rw [hy292]; with_reducible exact H2_) | (have H2_ := (Option.bind_some _ _).symm.trans H; with_reducible exact H2_) | with_reducible exact H | (rw [hy292]; exact H) | exact H
  have Ny292 := Aside0.mk hy292
  clear hy292
  by_cases c2 : y292.length + l0.length < 140737488355328
  · rw [if_pos c2] at H
    have LMc2 := Aside0.mk c2
    clear c2
    obtain ⟨y295, hy295⟩ : ∃ y_ : List Int, y_ = (y292 ++ l0) := ⟨_, rfl⟩
    replace H : (some y295) = some r := by first | (rw [hy295]; with_reducible exact H) | (have H2_ := (Option.bind_some _ _).symm.trans H; rw [hy295]; with_reducible exact H2_) | (have H2_ := (Option.bind_some _ _).symm.trans H; with_reducible exact H2_) | with_reducible exact H | (rw [hy295]; exact H) | exact H
    have Ny295 := Aside0.mk hy295
    clear hy295
    obtain rfl := Option.some.inj H
    go_enter Tryd.func23, Tryd.ntmps23
    go_wp2_with (first | ((with_reducible refine gate_dst (N := 3) rfl ?_); refine Kd.R_lit (Kd.int .u8) _ 5 ?hg (N := 3) ?hd (xs := ([] : List Int)) (inner := []) (ok := fun _ => True) (okp := fun _ => True) ?hr ?hp (fun _ hk => hk) trivial (Below.refl _ _) (Nat.le_refl _) (by simp) ?_; (case hd => rfl); (case hg => rfl); (case hr => first | (go_simp; done) | (go_simp; rfl)); (case hp => exact (Reps.none _ _)); intro v293 w3 ho4 hb hg_ hnew_; clear hg_ hnew_; (first | rw [← Ny292.out] at ho4 | (simp only [Int.reduceToNat] at ho4; rw [← Ny292.out] at ho4)); have n0_ := Aside0.mk (Kd.R_lower ho4 (below_size (by repeat (first | (with_reducible first | exact HB.out | apply below_alloc | apply pw_below_drewN | apply below_drew1) | exact HB.out)))); have n1_ := Aside0.mk (below_step (by repeat (first | (with_reducible first | exact HB.out | apply below_alloc | apply pw_below_drewN | apply below_drew1) | exact HB.out)) hb); clear HB; have HO294 := n0_; have HB := n1_; clear n0_ n1_; clear hb ho4) | ((with_reducible refine gate_builtin (b := .append) (xs := #[.tmp 3, .tmp 4]) rfl ?_); at_builtin; refine Kd.R_append_rows (Kd.int .u8) (w0 := w) w.heap.size rfl (.tmp 3) (.tmp 4) 29 5 (.int .u8 0) 1 rfl Tryd.underlying29 info5 rfl (by decide) (by omega) v293 y292 l0 _ _ _ (fun _ => True) (fun _ => False) rfl rfl ?aO ?aR (fun _ _ h => h) (fun _ h => h.elim) ?aF ?aB ?aS ?aL ?_; (case aR => repeat (first | exact (Kd.C_below HR0.out HB.out) | (with_reducible refine Kd.C_alloc ?_ _) | (with_reducible refine Kd.C_drewN ?_ _) | (with_reducible refine Kd.C_drew ?_))); (case aB => exact (by repeat (first | (with_reducible first | exact HB.out | apply below_alloc | apply pw_below_drewN | apply below_drew1) | exact HB.out))); (case aF => exact (fun _ _ => trivial)); (case aO => exact (by (with_reducible repeat (first | apply Kd.R_alloc | apply Kd.R_drewN | apply Kd.R_drew)); exact HO294.out)); (case aS => exact (below_size (by repeat (first | (with_reducible first | exact HB.out | apply below_alloc | apply pw_below_drewN | apply below_drew1) | exact HB.out)))); (case aL => have := LMc2.out; omega); intro v296 w5 ho hb hg hat; rw [← Ny295.out] at ho; have n0_ := Aside0.mk (hb); have n1_ := Aside0.mk (ho); clear HB; clear HO294; have HB := n0_; have HO297 := n1_; clear n0_ n1_; clear ho hb hg hat))
    go_ret
    exact ⟨_, by first | rfl | (simp [errW_none, errW_some] <;> rfl) | (simp [*, errW_none, errW_some] <;> rfl), by (with_reducible repeat (first | apply Kd.R_alloc | apply Kd.R_drewN | apply Kd.R_drew)); exact HO297.out, by repeat (first | (with_reducible first | exact HB.out | apply below_alloc | apply pw_below_drewN | apply below_drew1) | exact HB.out)⟩
  · rw [if_neg c2] at H
    exact absurd H (by simp)

-- NOT PRINTED: function 24 (text_Encoder_Bytes)

-- NOT PRINTED: function 11 (impl_TextEncode)

/-! ### laws_letter: function 65 -/
def laws_letter.f (a0 : Int) : Option (Bool) := if a0 ≥ 97 then (if a0 ≤ 122 then (some true) else (if a0 ≥ 65 then (if a0 ≤ 90 then (some true) else (some (a0 == 95))) else (some (a0 == 95)))) else (if a0 ≥ 65 then (if a0 ≤ 90 then (some true) else (some (a0 == 95))) else (some (a0 == 95)))
set_option maxHeartbeats 8000000 in
set_option maxRecDepth 100000 in
theorem laws_letter.calls (a0 : Int) (r : Bool) (w : World) (h : laws_letter.f a0 = some r) :
    Calls Tryd.prog 65 #[.int .u8 a0] w fun e w' => e = .returned (.bool r) ∧ Drawn0 w w' := by
  have H : (if a0 ≥ 97 then (if a0 ≤ 122 then (some true) else (if a0 ≥ 65 then (if a0 ≤ 90 then (some true) else (some (a0 == 95))) else (some (a0 == 95)))) else (if a0 ≥ 65 then (if a0 ≤ 90 then (some true) else (some (a0 == 95))) else (some (a0 == 95)))) = some r := h
  clear h
  by_cases c2 : a0 ≥ 97
  · rw [if_pos c2] at H
    have c2b0 : decide (97 ≤ a0) = true := decide_eq_true c2
    clear c2
    by_cases c3 : a0 ≤ 122
    · rw [if_pos c3] at H
      have c3b0 : decide (a0 ≤ 122) = true := decide_eq_true c3
      clear c3
      obtain rfl := Option.some.inj H
      go_enter Tryd.func65, Tryd.ntmps65
      go_wp2
      go_ret
      exact ⟨by first | rfl | (simp; done) | (simp [*]; done), by repeat (first | exact Drawn0.refl _ | apply Drawn0.step)⟩
    · rw [if_neg c3] at H
      have c3b0 : decide (a0 ≤ 122) = false := decide_eq_false c3
      clear c3
      by_cases c4 : a0 ≥ 65
      · rw [if_pos c4] at H
        have c4b0 : decide (65 ≤ a0) = true := decide_eq_true c4
        clear c4
        by_cases c5 : a0 ≤ 90
        · rw [if_pos c5] at H
          have c5b0 : decide (a0 ≤ 90) = true := decide_eq_true c5
          clear c5
          obtain rfl := Option.some.inj H
          go_enter Tryd.func65, Tryd.ntmps65
          go_wp2
          go_ret
          exact ⟨by first | rfl | (simp; done) | (simp [*]; done), by repeat (first | exact Drawn0.refl _ | apply Drawn0.step)⟩
        · rw [if_neg c5] at H
          have c5b0 : decide (a0 ≤ 90) = false := decide_eq_false c5
          clear c5
          obtain rfl := Option.some.inj H
          go_enter Tryd.func65, Tryd.ntmps65
          go_wp2
          go_ret
          exact ⟨by first | rfl | (simp; done) | (simp [*]; done), by repeat (first | exact Drawn0.refl _ | apply Drawn0.step)⟩
      · rw [if_neg c4] at H
        have c4b0 : decide (65 ≤ a0) = false := decide_eq_false c4
        clear c4
        obtain rfl := Option.some.inj H
        go_enter Tryd.func65, Tryd.ntmps65
        go_wp2
        go_ret
        exact ⟨by first | rfl | (simp; done) | (simp [*]; done), by repeat (first | exact Drawn0.refl _ | apply Drawn0.step)⟩
  · rw [if_neg c2] at H
    have c2b0 : decide (97 ≤ a0) = false := decide_eq_false c2
    clear c2
    by_cases c6 : a0 ≥ 65
    · rw [if_pos c6] at H
      have c6b0 : decide (65 ≤ a0) = true := decide_eq_true c6
      clear c6
      by_cases c7 : a0 ≤ 90
      · rw [if_pos c7] at H
        have c7b0 : decide (a0 ≤ 90) = true := decide_eq_true c7
        clear c7
        obtain rfl := Option.some.inj H
        go_enter Tryd.func65, Tryd.ntmps65
        go_wp2
        go_ret
        exact ⟨by first | rfl | (simp; done) | (simp [*]; done), by repeat (first | exact Drawn0.refl _ | apply Drawn0.step)⟩
      · rw [if_neg c7] at H
        have c7b0 : decide (a0 ≤ 90) = false := decide_eq_false c7
        clear c7
        obtain rfl := Option.some.inj H
        go_enter Tryd.func65, Tryd.ntmps65
        go_wp2
        go_ret
        exact ⟨by first | rfl | (simp; done) | (simp [*]; done), by repeat (first | exact Drawn0.refl _ | apply Drawn0.step)⟩
    · rw [if_neg c6] at H
      have c6b0 : decide (65 ≤ a0) = false := decide_eq_false c6
      clear c6
      obtain rfl := Option.some.inj H
      go_enter Tryd.func65, Tryd.ntmps65
      go_wp2
      go_ret
      exact ⟨by first | rfl | (simp; done) | (simp [*]; done), by repeat (first | exact Drawn0.refl _ | apply Drawn0.step)⟩

/-! ### laws_ident: function 25 -/
def laws_ident.l0 : Nat → ByteArray → ByteArray → Int → Option (ByteArray)
  | 0, _, _, _ => none
  | k + 1, x0, x3, x4 => if x4 < (x0.size : Int) then (if 0 ≤ x4 then ((laws_letter.f (bt x0 x4)).bind fun t298 => (if t298 = true then (if x4 ≤ (wrap64 (x4 + 1)) then (if (wrap64 (x4 + 1)) ≤ (x0.size : Int) then (if x3.size + (x0.extract (x4 : Int).toNat ((wrap64 (x4 + 1)) : Int).toNat).size ≤ 9223372036854775807 then (laws_ident.l0 k x0 (x3 ++ (x0.extract (x4 : Int).toNat ((wrap64 (x4 + 1)) : Int).toNat)) (wrap64 (x4 + 1))) else (none)) else (none)) else (none)) else (if (bt x0 x4) ≥ 48 then (if (bt x0 x4) ≤ 57 then (if x4 ≤ (wrap64 (x4 + 1)) then (if (wrap64 (x4 + 1)) ≤ (x0.size : Int) then (if x3.size + (x0.extract (x4 : Int).toNat ((wrap64 (x4 + 1)) : Int).toNat).size ≤ 9223372036854775807 then (laws_ident.l0 k x0 (x3 ++ (x0.extract (x4 : Int).toNat ((wrap64 (x4 + 1)) : Int).toNat)) (wrap64 (x4 + 1))) else (none)) else (none)) else (none)) else (laws_ident.l0 k x0 x3 (wrap64 (x4 + 1)))) else (laws_ident.l0 k x0 x3 (wrap64 (x4 + 1)))))) else (none)) else (some x3)
def laws_ident.f (k : Nat) (a0 : ByteArray) : Option (ByteArray) := laws_ident.l0 k a0 (⟨#[110]⟩ : ByteArray) 0
theorem laws_ident.mono_l : ∀ k, (∀ y0 y1 y2, LeO (laws_ident.l0 k y0 y1 y2) (laws_ident.l0 (k + 1) y0 y1 y2))
  | 0 => fun _ _ _ r h => by simp [laws_ident.l0] at h
  | k + 1 => by
    have ih0 := laws_ident.mono_l k
    · intro y0 y1 y2
      unfold laws_ident.l0
      repeat' first
      | (with_reducible exact ih0 _ _ _)
      | (with_reducible exact LeO.refl _)
      | (with_reducible exact LeO.none _)
      | (with_reducible refine LeO.ite ?_ ?_)
      | (with_reducible refine LeO.bind ?_ (fun _ => ?_))
      | exact ih0 _ _ _
      | exact LeO.none _
      | refine LeO.ite ?_ ?_
      | refine LeO.bind ?_ (fun _ => ?_)
theorem laws_ident.mono : ∀ a0 k, LeO (laws_ident.f k a0) (laws_ident.f (k + 1) a0) := by
  intro a0 k
  have ih0 := laws_ident.mono_l k
  unfold laws_ident.f
  repeat' first
      | (with_reducible exact ih0 _ _ _)
      | (with_reducible exact LeO.refl _)
      | (with_reducible exact LeO.none _)
      | (with_reducible refine LeO.ite ?_ ?_)
      | (with_reducible refine LeO.bind ?_ (fun _ => ?_))
      | exact ih0 _ _ _
      | exact LeO.none _
      | refine LeO.ite ?_ ?_
      | refine LeO.bind ?_ (fun _ => ?_)
set_option maxHeartbeats 8000000 in
set_option maxRecDepth 100000 in
theorem laws_ident.calls (k : Nat) (a0 : ByteArray) (r : ByteArray) (w : World) (h : laws_ident.f k a0 = some r) :
    Calls Tryd.prog 25 #[.string a0] w fun e w' => e = .returned (.string r) ∧ Drawn0 w w' := by
  have H : (laws_ident.l0 k a0 (⟨#[110]⟩ : ByteArray) 0) = some r := h
  clear h
  have H' := Aside0.mk H
  clear H
  go_enter Tryd.func25, Tryd.ntmps25
  go_wp2
  go_loopg [3, 4] k (fun kq v3 v4 w' => ∃ (x3_1 : ByteArray) (x4_1 : Int), v3 = .string x3_1 ∧ v4 = .int .i64 x4_1 ∧ Aside0 (laws_ident.l0 kq a0 x3_1 x4_1 = some r) ∧ Aside0 (kq ≤ k) ∧ Drawn0 w w')
  case atStart => exact ⟨((⟨#[110]⟩ : ByteArray)), (0), (by first | rfl | (simp; done) | (simp [*]; done)), (by first | rfl | (simp; done) | (simp [*]; done)), H', ⟨Nat.le_refl _⟩, by repeat (first | exact Drawn0.refl _ | apply Drawn0.step)⟩
  case round =>
    clear H'
    obtain ⟨x3_1, x4_1, rfl, rfl, HA, HK1, ⟨m1, rfl⟩⟩ := hrel
    cases gk with
    | zero => exact absurd HA.out (by simp [laws_ident.l0])
    | succ k1 =>
      have H := HA.out
      clear HA
      simp only [laws_ident.l0] at H
      by_cases c2 : x4_1 < (a0.size : Int)
      · rw [if_pos c2] at H
        have c2b0 : decide (x4_1 < (a0.size : Int)) = true := decide_eq_true c2
        clear c2
        by_cases c3 : 0 ≤ x4_1
        · rw [if_pos c3] at H
          have c3b0 : decide (0 ≤ x4_1) = true := decide_eq_true c3
          clear c3
          replace H := Option.bind_eq_some_iff.mp H
          obtain ⟨t298, A50, H⟩ := H
          replace H : (if t298 = true then (if x4_1 ≤ (wrap64 (x4_1 + 1)) then (if (wrap64 (x4_1 + 1)) ≤ (a0.size : Int) then (if x3_1.size + (a0.extract (x4_1 : Int).toNat ((wrap64 (x4_1 + 1)) : Int).toNat).size ≤ 9223372036854775807 then (laws_ident.l0 k1 a0 (x3_1 ++ (a0.extract (x4_1 : Int).toNat ((wrap64 (x4_1 + 1)) : Int).toNat)) (wrap64 (x4_1 + 1))) else (none)) else (none)) else (none)) else (if (bt a0 x4_1) ≥ 48 then (if (bt a0 x4_1) ≤ 57 then (if x4_1 ≤ (wrap64 (x4_1 + 1)) then (if (wrap64 (x4_1 + 1)) ≤ (a0.size : Int) then (if x3_1.size + (a0.extract (x4_1 : Int).toNat ((wrap64 (x4_1 + 1)) : Int).toNat).size ≤ 9223372036854775807 then (laws_ident.l0 k1 a0 (x3_1 ++ (a0.extract (x4_1 : Int).toNat ((wrap64 (x4_1 + 1)) : Int).toNat)) (wrap64 (x4_1 + 1))) else (none)) else (none)) else (none)) else (laws_ident.l0 k1 a0 x3_1 (wrap64 (x4_1 + 1)))) else (laws_ident.l0 k1 a0 x3_1 (wrap64 (x4_1 + 1))))) = some r := H
          have A5 := Aside0.mk A50
          clear A50
          by_cases c6 : t298 = true
          · subst c6
            have H1 : (if x4_1 ≤ (wrap64 (x4_1 + 1)) then (if (wrap64 (x4_1 + 1)) ≤ (a0.size : Int) then (if x3_1.size + (a0.extract (x4_1 : Int).toNat ((wrap64 (x4_1 + 1)) : Int).toNat).size ≤ 9223372036854775807 then (laws_ident.l0 k1 a0 (x3_1 ++ (a0.extract (x4_1 : Int).toNat ((wrap64 (x4_1 + 1)) : Int).toNat)) (wrap64 (x4_1 + 1))) else (none)) else (none)) else (none)) = some r := by rw [if_pos rfl] at H; exact H
            clear H
            have H := H1
            clear H1
            have c7b0 := eq_true (of_decide_eq_true (by first | (with_reducible assumption) | assumption) : 0 ≤ x4_1)
            by_cases c8 : x4_1 ≤ (wrap64 (x4_1 + 1))
            · rw [if_pos c8] at H
              have c8b0 := eq_true c8
              have c8b1 : decide (x4_1 ≤ (wrap64 (x4_1 + 1))) = true := decide_eq_true c8
              by_cases c9 : (wrap64 (x4_1 + 1)) ≤ (a0.size : Int)
              · rw [if_pos c9] at H
                have c9b0 := eq_true c9
                have c9b1 : decide ((wrap64 (x4_1 + 1)) ≤ (a0.size : Int)) = true := decide_eq_true c9
                by_cases c10 : x3_1.size + (a0.extract (x4_1 : Int).toNat ((wrap64 (x4_1 + 1)) : Int).toNat).size ≤ 9223372036854775807
                · rw [if_pos c10] at H
                  have c10b0 := eq_true c10
                  have c10b1 : decide (x3_1.size + (a0.extract (x4_1 : Int).toNat ((wrap64 (x4_1 + 1)) : Int).toNat).size ≤ 9223372036854775807) = true := decide_eq_true c10
                  try have c10b2 : (9223372036854775807 < x3_1.size + (a0.extract (x4_1 : Int).toNat ((wrap64 (x4_1 + 1)) : Int).toNat).size) = False := eq_false (Nat.not_lt.2 c10)
                  have H' := Aside0.mk H
                  clear H
                  have p4 : 0 ≤ (x4_1 : Int) := of_decide_eq_true (by first | (with_reducible assumption) | assumption)
                  have q4 : x4_1 < (a0.size : Int) := of_decide_eq_true (by first | (with_reducible assumption) | assumption)
                  have hx4 := bt_at a0 x4_1
                  replace p4 := eq_true p4
                  replace q4 := eq_true q4
                  go_wp2_with (first | ((with_reducible refine gate_callee (f := 65) rfl ?_); refine goesL_ (some 14) rfl rfl Tryd.func65 (by kernel_rfl) rfl #[.int .u8 (bt a0 x4_1)] rfl (by (try simp only [List.map_toArray, List.map_cons, List.map_nil]); first | done | rfl | (simp only [List.length_drop, List.length_take]; rfl)) ?_; (with_reducible refine (laws_letter.calls (bt a0 x4_1) true _ A5.out).mono ?_); rintro e w' ⟨rfl, ⟨nd, rfl⟩⟩; refine ⟨_, rfl, ?_⟩))
                  go_roundg k1
                  case measure => have := HK1.out; omega
                  case rel => exact ⟨(x3_1 ++ (a0.extract (x4_1 : Int).toNat ((wrap64 (x4_1 + 1)) : Int).toNat)), (wrap64 (x4_1 + 1)), (by first | rfl | (simp; done) | (simp [*]; done)), (by first | rfl | (simp; done) | (simp [*]; done)), H', ⟨by have := HK1.out; omega⟩, by repeat (first | exact Drawn0.refl _ | apply Drawn0.step)⟩
                · rw [if_neg c10] at H
                  exact absurd H (by simp)
              · rw [if_neg c9] at H
                exact absurd H (by simp)
            · rw [if_neg c8] at H
              exact absurd H (by simp)
          · replace c6 := Bool.eq_false_iff.mpr c6
            subst c6
            have H1 : (if (bt a0 x4_1) ≥ 48 then (if (bt a0 x4_1) ≤ 57 then (if x4_1 ≤ (wrap64 (x4_1 + 1)) then (if (wrap64 (x4_1 + 1)) ≤ (a0.size : Int) then (if x3_1.size + (a0.extract (x4_1 : Int).toNat ((wrap64 (x4_1 + 1)) : Int).toNat).size ≤ 9223372036854775807 then (laws_ident.l0 k1 a0 (x3_1 ++ (a0.extract (x4_1 : Int).toNat ((wrap64 (x4_1 + 1)) : Int).toNat)) (wrap64 (x4_1 + 1))) else (none)) else (none)) else (none)) else (laws_ident.l0 k1 a0 x3_1 (wrap64 (x4_1 + 1)))) else (laws_ident.l0 k1 a0 x3_1 (wrap64 (x4_1 + 1)))) = some r := by rw [if_neg (show ¬ (false = true) by decide)] at H; exact H
            clear H
            have H := H1
            clear H1
            by_cases c12 : (bt a0 x4_1) ≥ 48
            · rw [if_pos c12] at H
              have c12b0 : decide (48 ≤ (bt a0 x4_1)) = true := decide_eq_true c12
              clear c12
              by_cases c14 : (bt a0 x4_1) ≤ 57
              · rw [if_pos c14] at H
                have c14b0 : decide ((bt a0 x4_1) ≤ 57) = true := decide_eq_true c14
                clear c14
                have c15b0 := eq_true (of_decide_eq_true (by first | (with_reducible assumption) | assumption) : 0 ≤ x4_1)
                by_cases c16 : x4_1 ≤ (wrap64 (x4_1 + 1))
                · rw [if_pos c16] at H
                  have c16b0 := eq_true c16
                  have c16b1 : decide (x4_1 ≤ (wrap64 (x4_1 + 1))) = true := decide_eq_true c16
                  by_cases c17 : (wrap64 (x4_1 + 1)) ≤ (a0.size : Int)
                  · rw [if_pos c17] at H
                    have c17b0 := eq_true c17
                    have c17b1 : decide ((wrap64 (x4_1 + 1)) ≤ (a0.size : Int)) = true := decide_eq_true c17
                    by_cases c18 : x3_1.size + (a0.extract (x4_1 : Int).toNat ((wrap64 (x4_1 + 1)) : Int).toNat).size ≤ 9223372036854775807
                    · rw [if_pos c18] at H
                      have c18b0 := eq_true c18
                      have c18b1 : decide (x3_1.size + (a0.extract (x4_1 : Int).toNat ((wrap64 (x4_1 + 1)) : Int).toNat).size ≤ 9223372036854775807) = true := decide_eq_true c18
                      try have c18b2 : (9223372036854775807 < x3_1.size + (a0.extract (x4_1 : Int).toNat ((wrap64 (x4_1 + 1)) : Int).toNat).size) = False := eq_false (Nat.not_lt.2 c18)
                      have H' := Aside0.mk H
                      clear H
                      have p4 : 0 ≤ (x4_1 : Int) := of_decide_eq_true (by first | (with_reducible assumption) | assumption)
                      have q4 : x4_1 < (a0.size : Int) := of_decide_eq_true (by first | (with_reducible assumption) | assumption)
                      have hx4 := bt_at a0 x4_1
                      replace p4 := eq_true p4
                      replace q4 := eq_true q4
                      go_wp2_with (first | ((with_reducible refine gate_callee (f := 65) rfl ?_); refine goesL_ (some 14) rfl rfl Tryd.func65 (by kernel_rfl) rfl #[.int .u8 (bt a0 x4_1)] rfl (by (try simp only [List.map_toArray, List.map_cons, List.map_nil]); first | done | rfl | (simp only [List.length_drop, List.length_take]; rfl)) ?_; (with_reducible refine (laws_letter.calls (bt a0 x4_1) false _ A5.out).mono ?_); rintro e w' ⟨rfl, ⟨nd, rfl⟩⟩; refine ⟨_, rfl, ?_⟩; have p11 : 0 ≤ (x4_1 : Int) := of_decide_eq_true (by first | (with_reducible assumption) | assumption); have q11 : x4_1 < (a0.size : Int) := of_decide_eq_true (by first | (with_reducible assumption) | assumption); have hx11 := bt_at a0 x4_1; replace p11 := eq_true p11; replace q11 := eq_true q11; have p13 : 0 ≤ (x4_1 : Int) := of_decide_eq_true (by first | (with_reducible assumption) | assumption); have q13 : x4_1 < (a0.size : Int) := of_decide_eq_true (by first | (with_reducible assumption) | assumption); have hx13 := bt_at a0 x4_1; replace p13 := eq_true p13; replace q13 := eq_true q13))
                      go_roundg k1
                      case measure => have := HK1.out; omega
                      case rel => exact ⟨(x3_1 ++ (a0.extract (x4_1 : Int).toNat ((wrap64 (x4_1 + 1)) : Int).toNat)), (wrap64 (x4_1 + 1)), (by first | rfl | (simp; done) | (simp [*]; done)), (by first | rfl | (simp; done) | (simp [*]; done)), H', ⟨by have := HK1.out; omega⟩, by repeat (first | exact Drawn0.refl _ | apply Drawn0.step)⟩
                    · rw [if_neg c18] at H
                      exact absurd H (by simp)
                  · rw [if_neg c17] at H
                    exact absurd H (by simp)
                · rw [if_neg c16] at H
                  exact absurd H (by simp)
              · rw [if_neg c14] at H
                have c14b0 : decide ((bt a0 x4_1) ≤ 57) = false := decide_eq_false c14
                clear c14
                have H' := Aside0.mk H
                clear H
                have p4 : 0 ≤ (x4_1 : Int) := of_decide_eq_true (by first | (with_reducible assumption) | assumption)
                have q4 : x4_1 < (a0.size : Int) := of_decide_eq_true (by first | (with_reducible assumption) | assumption)
                have hx4 := bt_at a0 x4_1
                replace p4 := eq_true p4
                replace q4 := eq_true q4
                go_wp2_with (first | ((with_reducible refine gate_callee (f := 65) rfl ?_); refine goesL_ (some 14) rfl rfl Tryd.func65 (by kernel_rfl) rfl #[.int .u8 (bt a0 x4_1)] rfl (by (try simp only [List.map_toArray, List.map_cons, List.map_nil]); first | done | rfl | (simp only [List.length_drop, List.length_take]; rfl)) ?_; (with_reducible refine (laws_letter.calls (bt a0 x4_1) false _ A5.out).mono ?_); rintro e w' ⟨rfl, ⟨nd, rfl⟩⟩; refine ⟨_, rfl, ?_⟩; have p11 : 0 ≤ (x4_1 : Int) := of_decide_eq_true (by first | (with_reducible assumption) | assumption); have q11 : x4_1 < (a0.size : Int) := of_decide_eq_true (by first | (with_reducible assumption) | assumption); have hx11 := bt_at a0 x4_1; replace p11 := eq_true p11; replace q11 := eq_true q11; have p13 : 0 ≤ (x4_1 : Int) := of_decide_eq_true (by first | (with_reducible assumption) | assumption); have q13 : x4_1 < (a0.size : Int) := of_decide_eq_true (by first | (with_reducible assumption) | assumption); have hx13 := bt_at a0 x4_1; replace p13 := eq_true p13; replace q13 := eq_true q13))
                go_roundg k1
                case measure => have := HK1.out; omega
                case rel => exact ⟨(x3_1), (wrap64 (x4_1 + 1)), (by first | rfl | (simp; done) | (simp [*]; done)), (by first | rfl | (simp; done) | (simp [*]; done)), H', ⟨by have := HK1.out; omega⟩, by repeat (first | exact Drawn0.refl _ | apply Drawn0.step)⟩
            · rw [if_neg c12] at H
              have c12b0 : decide (48 ≤ (bt a0 x4_1)) = false := decide_eq_false c12
              clear c12
              have H' := Aside0.mk H
              clear H
              have p4 : 0 ≤ (x4_1 : Int) := of_decide_eq_true (by first | (with_reducible assumption) | assumption)
              have q4 : x4_1 < (a0.size : Int) := of_decide_eq_true (by first | (with_reducible assumption) | assumption)
              have hx4 := bt_at a0 x4_1
              replace p4 := eq_true p4
              replace q4 := eq_true q4
              go_wp2_with (first | ((with_reducible refine gate_callee (f := 65) rfl ?_); refine goesL_ (some 14) rfl rfl Tryd.func65 (by kernel_rfl) rfl #[.int .u8 (bt a0 x4_1)] rfl (by (try simp only [List.map_toArray, List.map_cons, List.map_nil]); first | done | rfl | (simp only [List.length_drop, List.length_take]; rfl)) ?_; (with_reducible refine (laws_letter.calls (bt a0 x4_1) false _ A5.out).mono ?_); rintro e w' ⟨rfl, ⟨nd, rfl⟩⟩; refine ⟨_, rfl, ?_⟩; have p11 : 0 ≤ (x4_1 : Int) := of_decide_eq_true (by first | (with_reducible assumption) | assumption); have q11 : x4_1 < (a0.size : Int) := of_decide_eq_true (by first | (with_reducible assumption) | assumption); have hx11 := bt_at a0 x4_1; replace p11 := eq_true p11; replace q11 := eq_true q11))
              go_roundg k1
              case measure => have := HK1.out; omega
              case rel => exact ⟨(x3_1), (wrap64 (x4_1 + 1)), (by first | rfl | (simp; done) | (simp [*]; done)), (by first | rfl | (simp; done) | (simp [*]; done)), H', ⟨by have := HK1.out; omega⟩, by repeat (first | exact Drawn0.refl _ | apply Drawn0.step)⟩
        · rw [if_neg c3] at H
          exact absurd H (by simp)
      · rw [if_neg c2] at H
        have c2b0 : decide (x4_1 < (a0.size : Int)) = false := decide_eq_false c2
        clear c2
        obtain rfl := Option.some.inj H
        go_wp2
        go_ret
        exact ⟨by first | rfl | (simp; done) | (simp [*]; done), by repeat (first | exact Drawn0.refl _ | apply Drawn0.step)⟩

-- NOT PRINTED: function 26 (laws_float)

/-! ### laws_width: function 27 -/
def laws_width.f (a0_0 : ByteArray) (a0_1 : Int) (a0_2 : Bool) (a0_3 : ByteArray) (a0_4 : Int) (a0_5 : Int) (a0_6 : Int) (a0_7 : Bool) (l0_8 : List (S76)) : Option (Int) := if a0_7 = true then (some 32) else (some 64)
set_option maxHeartbeats 8000000 in
set_option maxRecDepth 100000 in
theorem laws_width.calls (a0_0 : ByteArray) (a0_1 : Int) (a0_2 : Bool) (a0_3 : ByteArray) (a0_4 : Int) (a0_5 : Int) (a0_6 : Int) (a0_7 : Bool) (A0_8 : Option Addr) (c0_8 : Nat) (l0_8 : List (S76)) (r : Int) (w : World) (hr0_8 : Kd.C k76 w A0_8 l0_8.length l0_8) (hc0_8 : l0_8.length ≤ c0_8) (h : laws_width.f a0_0 a0_1 a0_2 a0_3 a0_4 a0_5 a0_6 a0_7 l0_8 = some r) :
    Calls Tryd.prog 27 #[.agg #[.string a0_0, .int .u8 a0_1, .bool a0_2, .string a0_3, .int .i64 a0_4, .int .u64 a0_5, .int .u64 a0_6, .bool a0_7, .slice A0_8 l0_8.length c0_8]] w fun e w' => e = .returned (.int .i64 r) ∧ Below w.heap.size w w' := by
  have hu76 := Tryd.underlying76
  have HR0_8 := Aside0.mk hr0_8
  have HC0_8 := Aside0.mk hc0_8
  clear hr0_8 hc0_8
  have HB := Aside0.mk (Below.refl w.heap.size w)
  have H : (if a0_7 = true then (some 32) else (some 64)) = some r := h
  clear h
  by_cases c2 : a0_7 = true
  · subst c2
    have H1 : (some 32) = some r := by rw [if_pos rfl] at H; exact H
    clear H
    have H := H1
    clear H1
    obtain rfl := Option.some.inj H
    go_enter Tryd.func27, Tryd.ntmps27
    go_wp2_with (first | ((with_reducible refine gate_dst (N := 1) rfl ?_); refine box_event ?hg (N := 1) ?hd (cs := #[.string a0_0, .int .u8 a0_1, .bool a0_2, .string a0_3, .int .i64 a0_4, .int .u64 a0_5, .int .u64 a0_6, .bool true, .slice A0_8 l0_8.length c0_8]) (t := 76) ?hr ?_; (case hd => rfl); (case hg => rfl); (case hr => first | (go_simp; done) | (go_simp; rfl)); intro gb300 hg w3 hbox hb; have n0_ := Aside0.mk (below_step (by repeat (first | (with_reducible first | exact HB.out | apply below_alloc | apply pw_below_drewN | apply below_drew1) | exact HB.out)) hb); have n1_ := Aside0.mk (hbox); have n2_ := Aside0.mk ((by rw [hg]; exact (below_size (by repeat (first | (with_reducible first | exact HB.out | apply below_alloc | apply pw_below_drewN | apply below_drew1) | exact HB.out))) : w.heap.size ≤ gb300)); have n3_ := Aside0.mk ((by rw [hg]; exact (below_size (by repeat (first | (with_reducible first | exact HB.out | apply below_alloc | apply pw_below_drewN | apply below_drew1) | exact HB.out))) : w.heap.size ≤ gb300)); clear HB; have HB := n0_; have BK300 := n1_; have GW300 := n2_; have GE300 := n3_; clear n0_ n1_ n2_ n3_; clear hb hbox hg; have hcz4_0 : w3.cell? ⟨gb300, 0, none⟩ = some (.string a0_0) := (blk_cell BK300.out 0).trans rfl; have hcz4_1 : w3.cell? ⟨gb300, 1, none⟩ = some (.int .u8 a0_1) := (blk_cell BK300.out 1).trans rfl; have hcz4_2 : w3.cell? ⟨gb300, 2, none⟩ = some (.bool a0_2) := (blk_cell BK300.out 2).trans rfl; have hcz4_3 : w3.cell? ⟨gb300, 3, none⟩ = some (.string a0_3) := (blk_cell BK300.out 3).trans rfl; have hcz4_4 : w3.cell? ⟨gb300, 4, none⟩ = some (.int .i64 a0_4) := (blk_cell BK300.out 4).trans rfl; have hcz4_5 : w3.cell? ⟨gb300, 5, none⟩ = some (.int .u64 a0_5) := (blk_cell BK300.out 5).trans rfl; have hcz4_6 : w3.cell? ⟨gb300, 6, none⟩ = some (.int .u64 a0_6) := (blk_cell BK300.out 6).trans rfl; have hcz4_7 : w3.cell? ⟨gb300, 7, none⟩ = some (.bool true) := (blk_cell BK300.out 7).trans rfl; have hcz4_8 : w3.cell? ⟨gb300, 8, none⟩ = some (.slice A0_8 l0_8.length c0_8) := (blk_cell BK300.out 8).trans rfl; have hfz4_0 := blk_frozen BK300.out 0; have hfz4_1 := blk_frozen BK300.out 1; have hfz4_2 := blk_frozen BK300.out 2; have hfz4_3 := blk_frozen BK300.out 3; have hfz4_4 := blk_frozen BK300.out 4; have hfz4_5 := blk_frozen BK300.out 5; have hfz4_6 := blk_frozen BK300.out 6; have hfz4_7 := blk_frozen BK300.out 7; have hfz4_8 := blk_frozen BK300.out 8))
    go_ret
    exact ⟨by first | rfl | (simp [errW_none, errW_some] <;> rfl) | (simp [*, errW_none, errW_some] <;> rfl), by repeat (first | (with_reducible first | exact HB.out | apply below_alloc | apply pw_below_drewN | apply below_drew1 | refine below_set ?_ GE300.out) | exact HB.out)⟩
  · replace c2 := Bool.eq_false_iff.mpr c2
    subst c2
    have H1 : (some 64) = some r := by rw [if_neg (show ¬ (false = true) by decide)] at H; exact H
    clear H
    have H := H1
    clear H1
    obtain rfl := Option.some.inj H
    go_enter Tryd.func27, Tryd.ntmps27
    go_wp2_with (first | ((with_reducible refine gate_dst (N := 1) rfl ?_); refine box_event ?hg (N := 1) ?hd (cs := #[.string a0_0, .int .u8 a0_1, .bool a0_2, .string a0_3, .int .i64 a0_4, .int .u64 a0_5, .int .u64 a0_6, .bool false, .slice A0_8 l0_8.length c0_8]) (t := 76) ?hr ?_; (case hd => rfl); (case hg => rfl); (case hr => first | (go_simp; done) | (go_simp; rfl)); intro gb300 hg w5 hbox hb; have n0_ := Aside0.mk (below_step (by repeat (first | (with_reducible first | exact HB.out | apply below_alloc | apply pw_below_drewN | apply below_drew1) | exact HB.out)) hb); have n1_ := Aside0.mk (hbox); have n2_ := Aside0.mk ((by rw [hg]; exact (below_size (by repeat (first | (with_reducible first | exact HB.out | apply below_alloc | apply pw_below_drewN | apply below_drew1) | exact HB.out))) : w.heap.size ≤ gb300)); have n3_ := Aside0.mk ((by rw [hg]; exact (below_size (by repeat (first | (with_reducible first | exact HB.out | apply below_alloc | apply pw_below_drewN | apply below_drew1) | exact HB.out))) : w.heap.size ≤ gb300)); clear HB; have HB := n0_; have BK300 := n1_; have GW300 := n2_; have GE300 := n3_; clear n0_ n1_ n2_ n3_; clear hb hbox hg; have hcz6_0 : w5.cell? ⟨gb300, 0, none⟩ = some (.string a0_0) := (blk_cell BK300.out 0).trans rfl; have hcz6_1 : w5.cell? ⟨gb300, 1, none⟩ = some (.int .u8 a0_1) := (blk_cell BK300.out 1).trans rfl; have hcz6_2 : w5.cell? ⟨gb300, 2, none⟩ = some (.bool a0_2) := (blk_cell BK300.out 2).trans rfl; have hcz6_3 : w5.cell? ⟨gb300, 3, none⟩ = some (.string a0_3) := (blk_cell BK300.out 3).trans rfl; have hcz6_4 : w5.cell? ⟨gb300, 4, none⟩ = some (.int .i64 a0_4) := (blk_cell BK300.out 4).trans rfl; have hcz6_5 : w5.cell? ⟨gb300, 5, none⟩ = some (.int .u64 a0_5) := (blk_cell BK300.out 5).trans rfl; have hcz6_6 : w5.cell? ⟨gb300, 6, none⟩ = some (.int .u64 a0_6) := (blk_cell BK300.out 6).trans rfl; have hcz6_7 : w5.cell? ⟨gb300, 7, none⟩ = some (.bool false) := (blk_cell BK300.out 7).trans rfl; have hcz6_8 : w5.cell? ⟨gb300, 8, none⟩ = some (.slice A0_8 l0_8.length c0_8) := (blk_cell BK300.out 8).trans rfl; have hfz6_0 := blk_frozen BK300.out 0; have hfz6_1 := blk_frozen BK300.out 1; have hfz6_2 := blk_frozen BK300.out 2; have hfz6_3 := blk_frozen BK300.out 3; have hfz6_4 := blk_frozen BK300.out 4; have hfz6_5 := blk_frozen BK300.out 5; have hfz6_6 := blk_frozen BK300.out 6; have hfz6_7 := blk_frozen BK300.out 7; have hfz6_8 := blk_frozen BK300.out 8))
    go_ret
    exact ⟨by first | rfl | (simp [errW_none, errW_some] <;> rfl) | (simp [*, errW_none, errW_some] <;> rfl), by repeat (first | (with_reducible first | exact HB.out | apply below_alloc | apply pw_below_drewN | apply below_drew1 | refine below_set ?_ GE300.out) | exact HB.out)⟩

-- NOT PRINTED: function 12 (laws_textOps)

-- NOT PRINTED: function 4 (laws_FnTextAscii)

end Go.Proofs.YtdggjpdhbailpaaDoor.Lf
