/- A row of bytes of the call's own beside an elder value of it: what is appended behind leaves the elder value's bytes as they were. Conditions: room below 2^47 bytes. -/
import Derived.Test.YtdggjpdhbailpaaDoorZWords
import Derived.Deep.AppendLies
set_option linter.unusedSectionVars false
namespace Go.Proofs.YtdggjpdhbailpaaDoorW.PrintWords
open Go.RowKit Go.Proofs.YtdggjpdhbailpaaDoorW.PrintWords Go.Proofs.YtdggjpdhbailpaaDoorW.PrintLast Go.Proofs.YtdggjpdhbailpaaDoorW.PrintMore

/-- The elder value and its bytes. -/
class Gho where
  v : Value
  l : List Int

/-- How an append left the worlds: in place, or in a new block, all old ones as they were. -/
def Lies (w w' : World) (v : Value) (n : Nat) (v' : Value) (n' : Nat) : Prop :=
  (∃ g cap, v = .slice (some ⟨g, 0, none⟩) n cap ∧ v' = .slice (some ⟨g, 0, none⟩) n' cap ∧ w.grownBy w' (some g)) ∨ (w.grownBy w' none ∧ ∀ k, v'.ownBlock = some k → w.heap.size ≤ k)

theorem Lies.grown {w w' : World} {v v' : Value} {n n' : Nat} (h : Lies w w' v n v' n') : w.grownBy w' v.ownBlock := by
  rcases h with ⟨g, cap, rfl, _, hg⟩ | ⟨hg, _⟩
  · exact hg
  · exact ⟨hg.os, hg.tape, hg.output, hg.size, fun k hk _ => hg.block k hk (by simp)⟩
theorem Lies.at {w w' : World} {v v' : Value} {n n' : Nat} (h : Lies w w' v n v' n') : ∀ k, v'.ownBlock = some k → v.ownBlock = some k ∨ w.heap.size ≤ k := by
  intro k hk
  rcases h with ⟨g, cap, rfl, rfl, hg⟩ | ⟨_, hb⟩
  · exact .inl hk
  · exact .inr (hb k hk)

theorem run_append_g {P : Program} (w : World) (base : Nat) (t ty e : TypeId) (i : TypeInfo) (z : Value) (size bytes : Nat) (ht : P.underlying t = some (.slice e)) (hi : P.info? e = some i) (hz : i.zero = some z)
    (hsize : i.size = size) (hby : i.bytes = bytes) (hzs : z.cells.size = size) (hsz : 0 < size)
    (v : Value) (n : Nat) (xs : List Value) (hown : w.ownsRow base e size v n xs)
    (a : Addr) (m c : Nat) (news : List Value) (hl : news.length = m * size) (hnews : ∀ j u, news[j]? = some u → w.cell? (a.add j) = some u) (h1 : ∀ u ∈ news, u.oneCell' = true)
    (h63 : n + m ≤ maxLen) (hbytes : (n + m) * bytes ≤ 140737488355328) (hbase : base ≤ w.heap.size) :
    ∃ v' w', (Builtin.append_ #[t, t] ty #[v, .slice (some a) m c]).run P w = .ok v' w' ∧ w'.ownsRow base e size v' (n + m) (xs ++ news) ∧ Lies w w' v n v' (n + m) ∧ (v'.ownBlock = v.ownBlock ∨ v'.ownBlock = some w.heap.size) := by
  obtain ⟨v', w', hr, h2, h3, _, h5⟩ := run_append_own_at (P := P) w base t ty e i z size bytes ht hi hz hsize hby hzs hsz v n xs hown a m c news hl hnews h1 h63 hbytes hbase
  refine ⟨v', w', hr, h2, ?_, h5⟩
  rcases hown.2 with ⟨rfl, rfl⟩ | ⟨g, cap, cur, rfl, hbg, hg, hnc, hcm, hcs, htake⟩
  · refine .inr ⟨h3, fun k hk => ?_⟩
    rcases h5 with h5 | h5
    · rw [h5] at hk; cases hk
    · rw [h5] at hk; injection hk with hk; omega
  · by_cases hroom : n + m ≤ cap
    · have hfit : n * i.size + news.length ≤ cur.size := by rw [hl, hcs, hsize, ← Nat.add_mul]; exact Nat.mul_le_mul_right _ hroom
      have hr2 := run_append_room (P := P) w t ty e i ht hi g n cap cur hg a m c news (by rw [hl, hsize]) hnews h1 hroom hfit
      rw [hr2] at hr
      injection hr with e1 _
      exact .inl ⟨g, cap, rfl, e1.symm, h3⟩
    · have holds : ∀ j u, xs[j]? = some u → w.cell? ((⟨g, 0, none⟩ : Addr).add j) = some u := hown.cells (g := g) rfl
      have hsmall : n + m ≤ 9223372036854775807 := by simp only [maxLen] at h63; omega
      have hr2 := run_append_grow (P := P) w t ty e i z ht hi hz ⟨g, 0, none⟩ n cap xs (by rw [hown.1, hsize]) holds a m c news (by rw [hl, hsize]) hnews (by omega) (by omega) (by rw [hby]; exact growslice_fits (by omega) hbytes)
      rw [hr2] at hr
      injection hr with e1 e2
      subst e1 e2
      exact .inr ⟨⟨rfl, rfl, rfl, by simp, fun k hk _ => heap_alloc_old w.drew _ hk⟩, fun k hk => by simp [Value.ownBlock] at hk; omega⟩

theorem run_append_str_g {P : Program} (w : World) (base : Nat) (t u ty e : TypeId) (i : TypeInfo) (ht : P.underlying t = some (.slice e)) (hu : P.underlying u = some .string) (hi : P.info? e = some i) (hz : i.zero = some (.int .u8 0))
    (hsize : i.size = 1) (hby : i.bytes = 1) (v : Value) (n : Nat) (xs : List Value) (hown : w.ownsRow base e 1 v n xs) (s : ByteArray) (hl : n + s.size ≤ 140737488355328) (hbase : base ≤ w.heap.size) :
    ∃ v' w', (Builtin.append_ #[t, u] ty #[v, .string s]).run P w = .ok v' w' ∧ w'.ownsRow base e 1 v' (n + s.size) (xs ++ Lib.strCells s) ∧ Lies w w' v n v' (n + s.size) := by
  obtain ⟨v', w', hr, h1, h2, h3⟩ := Lib.run_append_own_string w base t u ty e i ht hu hi hz hsize hby v n xs hown s (by simp only [maxLen]; omega) hl hbase
  refine ⟨v', w', hr, h1, ?_⟩
  have hxl : xs.length = n := by simpa using hown.1
  rcases hown.2 with ⟨rfl, rfl⟩ | ⟨g, cap, cur, rfl, hbg, hg, hnc, hcm, hcs, htake⟩
  · refine .inr ⟨h2, fun k hk => ?_⟩
    by_cases hm : s.size = 0
    · rw [h3.2 ⟨rfl, hm⟩] at hk
      cases hk
    · have hr2 := run_append_nil_string (P := P) w t u ty e i (.int .u8 0) ht hu hi hz s (by omega) (by omega) (by rw [hby]; omega)
      rw [hr2] at hr
      injection hr with e1 _
      subst e1
      simp [Value.ownBlock] at hk
      omega
  · by_cases hroom : n + s.size ≤ cap
    · have hcs' : cur.size = cap := by simpa using hcs
      have hr2 := Lib.run_append_room_string (P := P) w t u ty e i ht hu hi hsize g n cap cur hg s hroom (by omega)
      rw [hr2] at hr
      injection hr with e1 _
      exact .inl ⟨g, cap, rfl, e1.symm, h2⟩
    · have holds : ∀ j u, xs[j]? = some u → w.cell? ((⟨g, 0, none⟩ : Addr).add j) = some u := hown.cells (g := g) rfl
      have hr2 := Lib.run_append_grow_string (P := P) w t u ty e i (.int .u8 0) ht hu hi hz ⟨g, 0, none⟩ n cap xs (by rw [hsize]; simpa using hxl) holds s (by omega) (by omega) (by rw [hby]; exact growslice_fits (by omega) (by omega))
      rw [hr2] at hr
      injection hr with e1 e2
      subst e1 e2
      exact .inr ⟨⟨rfl, rfl, rfl, by simp, fun k hk _ => heap_alloc_old w.drew _ hk⟩, fun k hk => by simp [Value.ownBlock] at hk; omega⟩

namespace Kd
/-- A row of bytes of the call's own; the elder value still reads as it did. -/
structure G [γ : Gho] (_d : Kd Int) (e : Nat) (w : World) (base : Nat) (ok : Nat → Prop) (v : Value) (xs : List Int) : Prop where
  own : ∀ k, v.ownBlock = some k → ok k
  row : Kd.R (Kd.int .u8) e w base ok v xs
  elder : Kd.R (Kd.int .u8) e w base ok γ.v γ.l
  len : γ.v.ownBlock = v.ownBlock → γ.l.length ≤ xs.length

section
variable [γ : Gho] {d : Kd Int} {e : Nat} {w w1 W W2 : World} {base : Nat} {ok ok' S : Nat → Prop} {v u : Value} {xs : List Int}
theorem G_R (h : G d e w base ok v xs) : Kd.R (Kd.int .u8) e w base ok v xs := h.2
theorem G_mono (h : G d e w base ok v xs) (hok : ∀ k, ok k → ok' k) : G d e w base ok' v xs := ⟨fun k hk => hok k (h.1 k hk), R_mono h.2 hok, R_mono h.3 hok, h.4⟩
theorem G_below (h : G d e w base ok v xs) (hb : Below w.heap.size w w1) : G d e w1 base ok v xs := ⟨h.1, R_below h.2 hb, R_below h.3 hb, h.4⟩
theorem G_alloc (h : G d e w base ok v xs) (o : Obj) : G d e (w.alloc o) base ok v xs := G_below h (below_alloc (Below.refl _ _) o)
theorem G_drew (h : G d e w base ok v xs) : G d e w.drew base ok v xs := G_below h (below_drew (Below.refl _ _))
theorem G_drewN (h : G d e w base ok v xs) (m : Nat) : G d e (w.drewN m) base ok v xs := G_below h (pw_below_drewN (Below.refl _ _) m)
theorem G_far (h : G d e w base ok v xs) {p : Addr} (hok : ∀ k, ok k → k ≠ p.block) (x : Value) : G d e (w.setCell p x) base ok v xs := ⟨h.1, R_far h.2 hok x, R_far h.3 hok x, h.4⟩
theorem G_kept (h : G d e W base ok v xs) (hk : Kept W W2 S) (hne : ∀ k, ok k → ¬ S k) : G d e W2 base ok v xs := ⟨h.1, R_kept h.2 hk hne, R_kept h.3 hk hne, h.4⟩
theorem G_lower {base' : Nat} (h : G d e w base ok v xs) (hb : base' ≤ base) : G d e w base' ok v xs := ⟨h.1, R_lower h.2 hb, R_lower h.3 hb, h.4⟩
theorem G_reads (h : G d e w base ok v xs) : ∃ A c, v = .slice A xs.length c ∧ xs.length ≤ c ∧ (Kd.int .u8).C w A xs.length xs := R_reads h.2
theorem G_slice (h : G d e w base ok v xs) : ∃ A c, v = .slice A xs.length c := R_slice h.2
theorem G_lt (h : G d e w base ok v xs) : ∀ k, v.ownBlock = some k → k < w.heap.size := R_lt h.2
theorem G_elder' {u v : Value} (h : G d e W base ok u xs) (hbase : ∀ k, v.ownBlock = some k → W.heap.size ≤ k) (hb : Below W.heap.size W w1) : G d e w1 base (fun k => ok k ∧ some k ≠ v.ownBlock) u xs :=
  ⟨fun k hk => ⟨h.1 k hk, fun he => by have := hbase k he.symm; have := R_lt h.2 k hk; omega⟩, R_elder' h.2 hbase hb, R_elder' h.3 hbase hb, h.4⟩

/-- A row, seen twice: what an append behind leaves. -/
theorem G_lies {v v1 : Value} {xs ys : List Int} (h : G d e W base ok v xs) (h1 : w1.ownsRow base e 1 v1 (xs ++ ys).length (nums .u8 (xs ++ ys))) (hL : Lies W w1 v xs.length v1 (xs ++ ys).length) (hok : ∀ k, ok k → ok' k) (hnew : ∀ k, W.heap.size ≤ k → ok' k) :
    G d e w1 base ok' v1 (xs ++ ys) := by
  have hlen : xs.length ≤ (xs ++ ys).length := by simp
  obtain ⟨h0, hR, hG, hn⟩ := h
  have hlt := R_lt hG
  have ho1 : ∀ k, v1.ownBlock = some k → ok' k := fun k hk => (hL.at k hk).elim (fun h => hok k (h0 k h)) (hnew k)
  have hO := own_of_R hG
  refine ⟨ho1, R_of_own (h1 := fun _ => rfl) h1 ho1, ?_, ?_⟩
  · refine R_of_own (h1 := fun _ => rfl) ?_ (fun k hk => hok k (hG.1 k hk))
    rcases hL with ⟨g, cap, rfl, rfl, hgr⟩ | ⟨hgr, _⟩
    · by_cases hsame : Gho.v.ownBlock = some g
      · have hle : Gho.l.length ≤ xs.length := hn hsame
        have hO2 := own_of_R hR
        rcases hO.2 with ⟨e1, _⟩ | ⟨g0, cap0, cur0, e1, hb0, hh0, hn0, hc0, hs0, ht0⟩
        · rw [e1] at hsame; cases hsame
        · rw [e1] at hsame
          obtain rfl : g0 = g := by simpa [Value.ownBlock] using hsame
          rcases hO2.2 with ⟨e2, _⟩ | ⟨g2, cap2, cur2, e2, hb2, hh2, hn2, hc2, hs2, ht2⟩
          · cases e2
          · injection e2 with e2 e3 e4
            injection e2 with e2
            injection e2 with e2
            subst e2 e4
            rw [hh0] at hh2
            injection hh2 with hh2
            injection hh2 with hh2
            subst hh2
            rcases h1.2 with ⟨e5, _⟩ | ⟨g5, cap5, cur5, e5, hb5, hh5, hn5, hc5, hs5, ht5⟩
            · cases e5
            · injection e5 with e5 e6 e7
              injection e5 with e5
              injection e5 with e5
              subst e5 e7
              refine ⟨hO.1, .inr ⟨g0, cap0, cur5, e1, hb0, hh5, hn0, hc0, by omega, ?_⟩⟩
              rw [Nat.mul_one] at ht5 ht2 ht0 ⊢
              have q1 : cur5.toList.take Gho.l.length = ((cur5.toList.take (xs ++ ys).length).take Gho.l.length) := by rw [List.take_take, Nat.min_eq_left (by omega)]
              have q2 : cur0.toList.take Gho.l.length = ((cur0.toList.take xs.length).take Gho.l.length) := by rw [List.take_take, Nat.min_eq_left hle]
              have q3 : nums .u8 (xs ++ ys) = nums .u8 xs ++ nums .u8 ys := nums_append _ _ _
              rw [q1, ht5, q3, List.take_append_of_le_length (by simp [nums]; omega)]
              have q4 : nums .u8 xs = cur0.toList.take xs.length := ht2.symm
              rw [q4, ← q2]
              exact ht0
      · exact hO.kept hgr (.inr hsame)
    · exact hO.kept hgr (by cases hv : Gho.v.ownBlock <;> simp)
  · intro he
    rcases hL with ⟨g, cap, rfl, rfl, _⟩ | ⟨_, hb⟩
    · have := hn he
      omega
    · cases hv : Gho.v.ownBlock with
      | none =>
        have : Gho.l = [] := by
          rcases hO.2 with ⟨_, e2⟩ | ⟨g0, cap0, cur0, e1, _⟩
          · exact List.eq_nil_of_length_eq_zero e2
          · rw [e1] at hv; cases hv
        rw [this]
        simp
      | some k =>
        rw [hv] at he
        have := hb k he.symm
        have := hlt k hv
        omega
end

theorem reps_enc {α : Type} {enc : α → Value} {xs : List α} {inner : List Value} (hr : Reps (fun (x : α) (cs : List Value) => cs = [enc x]) 1 xs inner) : inner = encs enc xs := by
  apply List.ext_getElem?
  intro j
  have hlen : inner.length = xs.length := by have := hr.1; omega
  rcases Nat.lt_or_ge j xs.length with hj | hj
  · have h2 := hr.2 j _ (List.getElem?_eq_getElem hj)
    have hl : j < inner.length := by omega
    have h3 : (inner.drop (j * 1)).take 1 = [enc xs[j]] := h2
    rw [Nat.mul_one, List.drop_eq_getElem_cons hl] at h3
    have h4 : inner[j] = enc xs[j] := by
      have h5 := congrArg List.head? h3
      rw [List.take_succ_cons] at h5
      exact Option.some.inj h5
    rw [List.getElem?_eq_getElem hl, h4]
    simp [encs, List.getElem?_eq_getElem hj]
  · rw [List.getElem?_eq_none (by omega), List.getElem?_eq_none (by rw [encs_length]; omega)]

section
variable [γ : Gho] {P : Program} {d : Kd Int} {w0 W : World}
/-- What an append of one row of bytes gives, at the run. -/
theorem run_G_rows (base : Nat) (t ty e : TypeId) (ht : P.underlying t = some (.slice e)) (hinfo : (P.info? e).map (fun i => (i.zero, i.size, i.bytes)) = some (some (.int .u8 0), 1, 1)) (ok : Nat → Prop) (v : Value) (xs ys : List Int) (ad : Addr) (m c : Nat)
    (hm : ys.length = m) (hys : ∀ j u, (nums .u8 ys)[j]? = some u → W.cell? (ad.add j) = some u) (hfresh : ∀ k, W.heap.size ≤ k → ok k)
    (HO : G d e W base ok v xs) (HB : Below base w0 W) (hbase : base ≤ W.heap.size) (hl : xs.length + m ≤ 140737488355328) :
    ∃ v1 w1, (Builtin.append_ #[t, t] ty #[v, .slice (some ad) m c]).run P W = .ok v1 w1 ∧ G d e w1 base ok v1 (xs ++ ys) ∧ Below base w0 w1 ∧ W.grownBy w1 v.ownBlock ∧ (v1.ownBlock = v.ownBlock ∨ ∃ b, v1.ownBlock = some b ∧ W.heap.size ≤ b) := by
  obtain ⟨i0, hi, hzz⟩ := Option.map_eq_some_iff.1 hinfo
  simp only [Prod.mk.injEq] at hzz
  obtain ⟨hz0, hz1, hz2⟩ := hzz
  have hO := own_of_R HO.2
  obtain ⟨v1, w1, hr, h1, hL, hat⟩ := run_append_g (P := P) W base t ty e i0 (.int .u8 0) 1 1 ht hi hz0 hz1 hz2 rfl (by decide) v xs.length (nums .u8 xs) hO ad m c (nums .u8 ys) (by rw [nums_length, hm, Nat.mul_one]) hys (by
    intro u hu
    obtain ⟨y, _, rfl⟩ := List.mem_map.1 hu
    rfl) (by simp only [maxLen]; omega) (by omega) hbase
  have hl2 : (xs ++ ys).length = xs.length + m := by rw [List.length_append, hm]
  refine ⟨v1, w1, hr, G_lies HO (by rw [hl2, nums_append]; exact h1) (by rw [hl2]; exact hL) (fun _ h => h) hfresh, HB.grown hL.grown hbase (own_base hO), hL.grown, ?_⟩
  rcases hat with hat | hat
  · exact .inl hat
  · exact .inr ⟨_, hat, Nat.le_refl _⟩

/-- Of a row that is read, empty or not. -/
theorem run_G_read {Rr : Int → List Value → Prop} (base : Nat) (t ty e : TypeId) (ht : P.underlying t = some (.slice e)) (hinfo : (P.info? e).map (fun i => (i.zero, i.size, i.bytes)) = some (some (.int .u8 0), 1, 1)) (ok okp : Nat → Prop) (v : Value) (xs ys : List Int) (A : Option Addr) (m c : Nat)
    (HR : ReadsRow Rr 1 W A m ys) (hKM : ∀ x cs, Rr x cs → (Kd.int .u8).M W base okp x cs) (hfresh : ∀ k, W.heap.size ≤ k → ok k)
    (HO : G d e W base ok v xs) (HB : Below base w0 W) (hbase : base ≤ W.heap.size) (hl : xs.length + m ≤ 140737488355328) :
    ∃ v1 w1, (Builtin.append_ #[t, t] ty #[v, .slice A m c]).run P W = .ok v1 w1 ∧ G d e w1 base ok v1 (xs ++ ys) ∧ Below base w0 w1 ∧ W.grownBy w1 v.ownBlock ∧ (v1.ownBlock = v.ownBlock ∨ ∃ b, v1.ownBlock = some b ∧ W.heap.size ≤ b) := by
  obtain ⟨i0, hi, hzz⟩ := Option.map_eq_some_iff.1 hinfo
  simp only [Prod.mk.injEq] at hzz
  obtain ⟨hz0, hz1, hz2⟩ := hzz
  have hm : ys.length = m := HR.1
  rcases A with _ | ad
  · have h0 : m = 0 := by
      rcases Nat.eq_zero_or_pos m with h0 | h0
      · exact h0
      · obtain ⟨ad, h, _⟩ := HR.2.2 h0
        cases h
    subst h0
    obtain rfl : ys = [] := List.eq_nil_of_length_eq_zero hm
    refine ⟨v, W, ?_, by rw [List.append_nil]; exact HO, HB, World.grownBy.refl W _, .inl rfl⟩
    rcases (own_of_R HO.2).2 with ⟨rfl, hn⟩ | ⟨g, cap, cur, rfl, _, _, hnc, _⟩
    · simp [Builtin.append_, run_underlying ht, sizeOf, typeInfo, hi, Builtin.lenOf, Builtin.firstCells]
    · simp [Builtin.append_, run_underlying ht, sizeOf, typeInfo, hi, Builtin.lenOf, Builtin.firstCells, hnc, storeCells]
  · obtain ⟨news, hnr, hnc⟩ := ReadsRow.inner_ HR
    have hnM : Reps (fun (x : Int) (cs : List Value) => cs = [Value.int .u8 x]) 1 ys news := hnr.imp_ (fun p c hp => hKM p c hp)
    obtain rfl : news = nums .u8 ys := reps_enc hnM
    exact run_G_rows base t ty e ht hinfo ok v xs ys ad m c hm hnc hfresh HO HB hbase hl

theorem run_G_one (base : Nat) (t ty e : TypeId) (ht : P.underlying t = some (.slice e)) (hinfo : (P.info? e).map (fun i => (i.zero, i.size, i.bytes)) = some (some (.int .u8 0), 1, 1)) (ok okp : Nat → Prop) (v : Value) (xs : List Int) (p : Int) (cs : List Value)
    (hp : (Kd.int .u8).M W base okp p cs) (hfresh : ∀ k, W.heap.size ≤ k → ok k)
    (HO : G d e W base ok v xs) (HB : Below base w0 W) (hbase : base ≤ W.heap.size) (hl : xs.length + 1 ≤ 140737488355328) :
    ∃ v1 w1, (Builtin.append_ #[t, t] ty #[v, .slice (some ⟨W.heap.size, 0, none⟩) 1 1]).run P (W.alloc (.cells cs.toArray e)) = .ok v1 w1 ∧ G d e w1 base ok v1 (xs ++ [p]) ∧ Below base w0 w1 ∧ W.grownBy w1 v.ownBlock ∧ (v1.ownBlock = v.ownBlock ∨ ∃ b, v1.ownBlock = some b ∧ W.heap.size ≤ b) := by
  obtain rfl : cs = [Value.int .u8 p] := hp
  obtain ⟨v1, w1, hr, h1, h2, h3, h4⟩ := run_G_rows (d := d) (P := P) (w0 := w0) (W := W.alloc (.cells [Value.int .u8 p].toArray e)) base t ty e ht hinfo ok v xs [p] ⟨W.heap.size, 0, none⟩ 1 1 rfl
    (by simpa [nums] using World.news_of_block (cs := [Value.int .u8 p].toArray) (t := e) (fr := (0, 0)) (heap_alloc_new W (.cells [Value.int .u8 p].toArray e))) (fun k hk => hfresh k (by simp at hk; omega)) (G_alloc HO _) (HB.alloc hbase _) (by simp; omega) hl
  refine ⟨v1, w1, hr, h1, h2, World.grownBy.trans (World.grownBy_alloc W _ _) h3, ?_⟩
  rcases h4 with h4 | ⟨b, hb, hle⟩
  · exact .inl h4
  · exact .inr ⟨b, hb, by simp at hle; omega⟩

theorem run_G_str (base : Nat) (t u ty e : TypeId) (ht : P.underlying t = some (.slice e)) (hu : P.underlying u = some .string)
    (hinfo : (P.info? e).map (fun i => (i.zero, i.size, i.bytes)) = some (some (.int .u8 0), 1, 1)) (ok : Nat → Prop) (v : Value) (xs : List Int) (y : ByteArray)
    (HO : G d e W base ok v xs) (HB : Below base w0 W) (hbase : base ≤ W.heap.size) (hl : xs.length + y.size ≤ 140737488355328) :
    ∃ v1 w1, (Builtin.append_ #[t, u] ty #[v, .string y]).run P W = .ok v1 w1 ∧ G d e w1 base (fun k => ok k ∨ W.heap.size ≤ k) v1 (xs ++ bytesOf y) ∧ Below base w0 w1 ∧ Kept W w1 ok := by
  obtain ⟨i0, hi, hzz⟩ := Option.map_eq_some_iff.1 hinfo
  simp only [Prod.mk.injEq] at hzz
  obtain ⟨hz0, hz1, hz2⟩ := hzz
  have hO := own_of_R HO.2
  obtain ⟨v1, w1, hr, h1, hL⟩ := run_append_str_g (P := P) W base t u ty e i0 ht hu hi hz0 hz1 hz2 v xs.length (nums .u8 xs) hO y hl hbase
  have hl2 : (xs ++ bytesOf y).length = xs.length + y.size := by rw [List.length_append, bytesOf_length]
  have hn2 : nums .u8 (xs ++ bytesOf y) = nums .u8 xs ++ Lib.strCells y := by
    rw [nums_append]
    congr 1
    simp [nums, bytesOf, Lib.strCells]
  exact ⟨v1, w1, hr, G_lies HO (by rw [hl2, hn2]; exact h1) (by rw [hl2]; exact hL) (fun _ h => .inl h) (fun _ h => .inr h), HB.grown hL.grown hbase (own_base hO), hL.grown.size, fun k hk hn => hL.grown.block k hk (fun he => hn (HO.1 k he.symm))⟩
end

section
variable [γ : Gho] {P : Program} {ops : Array Oper} {rest : List Oper} {o : Oper} {a : Act} {Q : Exit → Act → World → Prop} {dd : Kd Int}
theorem G_append (_d : Kd Int) {w0 W : World} (base : Nat) (hgd : o.guard = none) (s x : Operand) (t e : TypeId) (z : Value) (bytes : Nat)
    (ho : o.op = .call { callee := .builtin .append, args := #[s, x], argTypes := #[t, t] })
    (ht : P.underlying t = some (.slice e)) (hinfo : (P.info? e).map (fun i => (i.zero, i.size, i.bytes)) = some (some (.int .u8 0), 1, 1)) (_hz : z.cells.size = 1) (_hs0 : 0 < 1) (_hb0 : 0 < bytes)
    (v : Value) (xs : List Int) (p : Int) (cs : List Value) (ok okp : Nat → Prop) (hs : a.eval s = v) (hx : a.eval x = .slice (some ⟨W.heap.size, 0, none⟩) 1 1) (hp : (Kd.int .u8).M W base okp p cs) (_hokp : ∀ k, okp k → ok k ∧ some k ≠ v.ownBlock) (hfresh : ∀ k, W.heap.size ≤ k → ok k)
    (HO : G dd e W base ok v xs) (HB : Below base w0 W) (hbase : base ≤ W.heap.size) (hl : (xs.length + 1) * 1 ≤ 140737488355328)
    (h : ∀ v1 w1, G dd e w1 base ok v1 (xs ++ [p]) → Below base w0 w1 → W.grownBy w1 v.ownBlock → (v1.ownBlock = v.ownBlock ∨ ∃ b, v1.ownBlock = some b ∧ W.heap.size ≤ b) → wpList P ops Q rest (a.put o.dst v1) w1) :
    wpList P ops Q (o :: rest) a (W.alloc (.cells cs.toArray e)) := by
  obtain ⟨v1, w1, hr, h1, h2, h3, h4⟩ := run_G_one (P := P) (w0 := w0) base t o.type e ht hinfo ok okp v xs p cs hp hfresh HO HB hbase (by omega)
  refine wpList_plain hgd fun K hK => ?_
  unfold Oper.wp execOp
  simp only [ho, resolve, invoke, builtin, Sem.run_bind, Sem.run_pure, Result.andThen_ok, List.map_toArray, List.map_cons, List.map_nil, hs, hx, hr]
  exact hK _ _ (h v1 w1 h1 h2 h3 h4)
theorem G_append_rows (_d : Kd Int) {Rr : Int → List Value → Prop} {w0 W : World} (base : Nat) (hgd : o.guard = none) (s x : Operand) (t e : TypeId) (z : Value) (bytes : Nat)
    (ho : o.op = .call { callee := .builtin .append, args := #[s, x], argTypes := #[t, t] })
    (ht : P.underlying t = some (.slice e)) (hinfo : (P.info? e).map (fun i => (i.zero, i.size, i.bytes)) = some (some (.int .u8 0), 1, 1)) (_hz : z.cells.size = 1) (_hs0 : 0 < 1) (_hb0 : 0 < bytes)
    (v : Value) (xs ys : List Int) (A : Option Addr) (m c : Nat) (ok okp : Nat → Prop) (hs : a.eval s = v) (hx : a.eval x = .slice A m c)
    (HO : G dd e W base ok v xs) (HR : ReadsRow Rr 1 W A m ys) (hKM : ∀ x cs, Rr x cs → (Kd.int .u8).M W base okp x cs) (_hokp : ∀ k, okp k → ok k ∧ some k ≠ v.ownBlock) (hfresh : ∀ k, W.heap.size ≤ k → ok k)
    (HB : Below base w0 W) (hbase : base ≤ W.heap.size) (hl : (xs.length + m) * 1 ≤ 140737488355328)
    (h : ∀ v1 w1, G dd e w1 base ok v1 (xs ++ ys) → Below base w0 w1 → W.grownBy w1 v.ownBlock → (v1.ownBlock = v.ownBlock ∨ ∃ b, v1.ownBlock = some b ∧ W.heap.size ≤ b) → wpList P ops Q rest (a.put o.dst v1) w1) :
    wpList P ops Q (o :: rest) a W := by
  obtain ⟨v1, w1, hr, h1, h2, h3, h4⟩ := run_G_read (P := P) (w0 := w0) base t o.type e ht hinfo ok okp v xs ys A m c HR hKM hfresh HO HB hbase (by omega)
  refine wpList_plain hgd fun K hK => ?_
  unfold Oper.wp execOp
  simp only [ho, resolve, invoke, builtin, Sem.run_bind, Sem.run_pure, Result.andThen_ok, List.map_toArray, List.map_cons, List.map_nil, hs, hx, hr]
  exact hK _ _ (h v1 w1 h1 h2 h3 h4)
end
section
variable [γ : Gho] {P : Program} {ops : Array Oper} {o : Oper} {a : Act} {Q : Exit → Act → World → Prop} {Kc : Act → World → Prop} {dd : Kd Int}
theorem G_append_step (_d : Kd Int) {w0 W : World} (base : Nat) (hw : Region.wanted o (yielded ops a.tmps) = true) (s x : Operand) (t e : TypeId) (z : Value) (bytes : Nat)
    (ho : o.op = .call { callee := .builtin .append, args := #[s, x], argTypes := #[t, t] })
    (ht : P.underlying t = some (.slice e)) (hinfo : (P.info? e).map (fun i => (i.zero, i.size, i.bytes)) = some (some (.int .u8 0), 1, 1)) (_hz : z.cells.size = 1) (_hs0 : 0 < 1) (_hb0 : 0 < bytes)
    (v : Value) (xs : List Int) (p : Int) (cs : List Value) (ok okp : Nat → Prop) (hs : a.eval s = v) (hx : a.eval x = .slice (some ⟨W.heap.size, 0, none⟩) 1 1) (hp : (Kd.int .u8).M W base okp p cs) (_hokp : ∀ k, okp k → ok k ∧ some k ≠ v.ownBlock) (hfresh : ∀ k, W.heap.size ≤ k → ok k)
    (HO : G dd e W base ok v xs) (HB : Below base w0 W) (hbase : base ≤ W.heap.size) (hl : (xs.length + 1) * 1 ≤ 140737488355328)
    (h : ∀ v1 w1, G dd e w1 base ok v1 (xs ++ [p]) → Below base w0 w1 → W.grownBy w1 v.ownBlock → (v1.ownBlock = v.ownBlock ∨ ∃ b, v1.ownBlock = some b ∧ W.heap.size ≤ b) → Kc (a.put o.dst v1) w1) :
    if Region.wanted o (yielded ops a.tmps) = true then Oper.wp P o a (W.alloc (.cells cs.toArray e)) Kc Q else Kc (a.put o.dst undef) (W.alloc (.cells cs.toArray e)) := by
  obtain ⟨v1, w1, hr, h1, h2, h3, h4⟩ := run_G_one (P := P) (w0 := w0) base t o.type e ht hinfo ok okp v xs p cs hp hfresh HO HB hbase (by omega)
  rw [if_pos hw]
  unfold Oper.wp execOp
  simp only [ho, resolve, invoke, builtin, Sem.run_bind, Sem.run_pure, Result.andThen_ok, List.map_toArray, List.map_cons, List.map_nil, hs, hx, hr]
  exact h v1 w1 h1 h2 h3 h4
end
end Kd
end Go.Proofs.YtdggjpdhbailpaaDoorW.PrintWords
