/- What fmtEFG writes with 'g' at the shortest: bytes of ASCII alone, and the same ones whatever stands ahead. Conditions: at most 30 digits, each from 0 to 127; the point within 5,000 of them. -/
import Derived.Test.YtdggjpdhbailpaaDoorZEfgd
namespace Go.Proofs.YtdggjpdhbailpaaDoor.Efp
open Go.RowKit Go.Proofs.YtdggjpdhbailpaaDoorW.PrintWords Go.Proofs.YtdggjpdhbailpaaDoorW.PrintLast Go.Proofs.YtdggjpdhbailpaaDoorW.PrintMore Go.Proofs.YtdggjpdhbailpaaDoor.Efgd

/-- F appends some bytes of ASCII, at most m, the same ones to whatever stands there, where it has K rounds. -/
def Ap (F : Nat → List Int → Option (List Int)) (K m : Nat) : Prop :=
  ∃ r : List Int, (∀ x ∈ r, 0 ≤ x ∧ x < 128) ∧ r.length ≤ m ∧ ∀ k l, K ≤ k → l.length + m < 140737488355328 → F k l = some (l ++ r)

theorem Ap.nil {F : Nat → List Int → Option (List Int)} {K m : Nat} (h : ∀ k x, K ≤ k → F k x = some x) : Ap F K m :=
  ⟨[], by simp, by simp, fun k l hk _ => by rw [h k l hk]; simp⟩
theorem Ap.step {F G : Nat → List Int → Option (List Int)} {K m : Nat} {ys : List Int} (hG : Ap G K m) (hy : ∀ x ∈ ys, 0 ≤ x ∧ x < 128) (h : ∀ k x, K ≤ k → x.length + ys.length < 140737488355328 → F (k + 1) x = G k (x ++ ys)) : Ap F (K + 1) (m + ys.length) := by
  obtain ⟨r, h1, h2, h3⟩ := hG
  refine ⟨ys ++ r, ?_, by simp; omega, fun k l hk hl => ?_⟩
  · intro x hx
    rcases List.mem_append.1 hx with hx | hx
    · exact hy x hx
    · exact h1 x hx
  · obtain ⟨j, rfl⟩ : ∃ j, k = j + 1 := ⟨k - 1, by omega⟩
    rw [h j l (by omega) (by omega), h3 j _ (by omega) (by simp; omega)]
    simp
theorem Ap.le {F : Nat → List Int → Option (List Int)} {K m K' m' : Nat} (h : Ap F K m) (hK : K ≤ K') (hm : m ≤ m') : Ap F K' m' := by
  obtain ⟨r, h1, h2, h3⟩ := h
  exact ⟨r, h1, by omega, fun k l hk hl => h3 k l (by omega) (by omega)⟩
theorem Ap.jump {F G : Nat → List Int → Option (List Int)} {K m : Nat} (hG : Ap G K m) (h : ∀ k x, F (k + 1) x = G k x) : Ap F (K + 1) m := by
  have := Ap.step (F := F) (ys := []) hG (by simp) (fun k x _ _ => by rw [h]; simp)
  simpa using this
theorem Ap.same {F G : Nat → List Int → Option (List Int)} {K m : Nat} (hG : Ap G K m) (h : ∀ k x, F k x = G k x) : Ap F K m := by
  obtain ⟨r, h1, h2, h3⟩ := hG
  exact ⟨r, h1, h2, fun k l hk hl => by rw [h]; exact h3 k l hk hl⟩

theorem wr (x : Int) (h : -1000000 ≤ x) (h2 : x ≤ 1000000) : wrap64 x = x := by unfold wrap64; omega

theorem l5 (d : Nat) : ∀ (n i : Int), 0 ≤ i → n ≤ 100000 → (n - i).toNat = d → Ap (fun k x => strconv_fmtEFG.l5 k x n i) (d + 1) d := by
  induction d with
  | zero =>
    intro n i h0 h1 hd
    refine Ap.nil fun k x hk => ?_
    obtain ⟨j, rfl⟩ : ∃ j, k = j + 1 := ⟨k - 1, by omega⟩
    simp only [strconv_fmtEFG.l5]
    rw [if_neg (by omega)]
  | succ d ih =>
    intro n i h0 h1 hd
    refine Ap.step (ys := [48]) (ih n (i + 1) (by omega) h1 (by omega)) (by simp) fun k x hk hx => ?_
    simp only [strconv_fmtEFG.l5]
    rw [if_pos (by omega), if_pos (by simpa using by simp at hx; omega), wr _ (by omega) (by omega)]

theorem l4 (x2 : List Int) (hx2 : ∀ x ∈ x2, 0 ≤ x ∧ x < 128) (off tz m : Int) (h0 : ∀ j, 0 ≤ j → j < m → 0 ≤ off + j ∧ off + j < x2.length) (h2 : x2.length ≤ 1000) (h3 : tz ≤ 10000) (hm : m ≤ 10000) (d : Nat) : ∀ i : Int, 0 ≤ i → (m - i).toNat = d →
    Ap (fun k x => strconv_fmtEFG.l4 k x x2 off tz m i) (d + tz.toNat + 2) (d + tz.toNat) := by
  induction d with
  | zero =>
    intro i hi hd
    have h5 := l5 tz.toNat tz 0 (by omega) (by omega) (by omega)
    have := Ap.jump (F := fun k x => strconv_fmtEFG.l4 k x x2 off tz m i) h5 (fun k x => by
      simp only [strconv_fmtEFG.l4]
      rw [if_neg (by omega)])
    exact this.le (by omega) (by omega)
  | succ d ih =>
    intro i hi hd
    have hb := h0 i hi (by omega)
    have := Ap.step (F := fun k x => strconv_fmtEFG.l4 k x x2 off tz m i) (ys := [rd x2 (off + i)]) (ih (i + 1) (by omega) (by omega)) (by
      intro x hx
      obtain rfl := List.mem_singleton.1 hx
      have hlt : (off + i).toNat < x2.length := by omega
      have : rd x2 (off + i) = x2[(off + i).toNat] := by simp [rd, List.getD_eq_getElem?_getD, List.getElem?_eq_getElem hlt]
      rw [this]
      exact hx2 _ (List.getElem_mem hlt)) (fun k x hk hx => by
      simp only [strconv_fmtEFG.l4]
      rw [if_pos (by omega), wr (off + i) (by omega) (by omega), if_pos (by omega), if_pos (by omega), if_pos (by simp at hx; omega), wr (i + 1) (by omega) (by omega)])
    exact this.le (by omega) (by simp; omega)

theorem l3 (x2 : List Int) (hx2 : ∀ x ∈ x2, 0 ≤ x ∧ x < 128) (off tz m : Int) (h0 : ∀ j, 0 ≤ j → j < m → 0 ≤ off + j ∧ off + j < x2.length) (h2 : x2.length ≤ 1000) (h3 : tz ≤ 10000) (hm : m ≤ 10000) (lz : Int) (hl : lz ≤ 10000) (d : Nat) : ∀ i : Int, 0 ≤ i → (lz - i).toNat = d →
    Ap (fun k x => strconv_fmtEFG.l3 k x x2 off m tz lz i) (d + m.toNat + tz.toNat + 3) (d + m.toNat + tz.toNat) := by
  induction d with
  | zero =>
    intro i hi hd
    have h5 := l4 x2 hx2 off tz m h0 h2 h3 hm m.toNat 0 (by omega) (by omega)
    have := Ap.jump (F := fun k x => strconv_fmtEFG.l3 k x x2 off m tz lz i) h5 (fun k x => by
      simp only [strconv_fmtEFG.l3]
      rw [if_neg (by omega)])
    exact this.le (by omega) (by omega)
  | succ d ih =>
    intro i hi hd
    have := Ap.step (F := fun k x => strconv_fmtEFG.l3 k x x2 off m tz lz i) (ys := [48]) (ih (i + 1) (by omega) (by omega)) (by simp) (fun k x hk hx => by
      simp only [strconv_fmtEFG.l3]
      rw [if_pos (by omega), if_pos (by simp at hx; omega), wr (i + 1) (by omega) (by omega)])
    exact this.le (by omega) (by simp; omega)

theorem mx_le (a b c : Int) (h1 : a ≤ c) (h2 : b ≤ c) : mx a b ≤ c := by unfold mx; split <;> assumption

theorem j17 (x2 : List Int) (hx2 : ∀ x ∈ x2, 0 ≤ x ∧ x < 128) (hl : x2.length ≤ 100) (dp nd prec : Int) (h0 : -100 ≤ dp) (h1 : dp ≤ 100) (h2 : 0 ≤ nd) (h3 : nd ≤ x2.length) (h4 : prec ≤ 1000) :
    Ap (fun k x => strconv_fmtEFG.j17 k x x2 dp nd prec) 4000 4000 := by
  by_cases hp : prec > 0
  · obtain ⟨lz, hlz⟩ : ∃ lz, lz = mn prec (mx 0 (-dp)) := ⟨_, rfl⟩
    have hlz0 : 0 ≤ lz ∧ lz ≤ 100 ∧ lz ≤ prec ∧ (0 ≤ dp → lz = 0) ∧ (dp ≤ 0 → lz ≤ -dp) := by rw [hlz]; unfold mn mx; omega
    obtain ⟨m, hm⟩ : ∃ m, m = mn (prec - lz) (mx 0 (nd - (dp + lz))) := ⟨_, rfl⟩
    have hm0 : 0 ≤ m ∧ m ≤ 300 ∧ m ≤ prec - lz ∧ (m = 0 ∨ (dp + lz + m ≤ nd ∧ 0 ≤ dp + lz)) := by rw [hm, hlz]; unfold mn mx; omega
    have h := l3 x2 hx2 (dp + lz) (mx 0 (prec - lz - m)) m (fun j hj hm => by omega) (by omega) (by unfold mx; split <;> omega) (by omega) lz (by omega) lz.toNat 0 (by omega) (by omega)
    have := Ap.step (F := fun k x => strconv_fmtEFG.j17 k x x2 dp nd prec) (ys := [46]) h (by simp) (fun k x hk hx => by
      simp only [strconv_fmtEFG.j17]
      rw [if_pos hp, if_pos (by simp at hx; omega), wr (-dp) (by omega) (by omega), ← hlz, wr (dp + lz) (by omega) (by omega), wr (prec - lz) (by omega) (by omega), wr (nd - (dp + lz)) (by omega) (by omega), ← hm, wr (prec - lz - m) (by omega) (by omega)])
    have hmx : mx 0 (prec - lz - m) ≤ 1000 := by unfold mx; split <;> omega
    exact this.le (by omega) (by simp; omega)
  · refine Ap.nil fun k x hk => ?_
    obtain ⟨j, rfl⟩ : ∃ j, k = j + 1 := ⟨k - 1, by omega⟩
    simp only [strconv_fmtEFG.j17]
    rw [if_neg hp]

theorem l2 (x2 : List Int) (hx2 : ∀ x ∈ x2, 0 ≤ x ∧ x < 128) (hl : x2.length ≤ 100) (dp nd prec : Int) (h0 : -100 ≤ dp) (h1 : dp ≤ 100) (h2 : 0 ≤ nd) (h3 : nd ≤ x2.length) (h4 : prec ≤ 1000) (n : Int) (hn : n ≤ 10000) (d : Nat) : ∀ i : Int, 0 ≤ i → (n - i).toNat = d →
    Ap (fun k x => strconv_fmtEFG.l2 k x x2 dp nd prec n i) (d + 4001) (d + 4000) := by
  induction d with
  | zero =>
    intro i hi hd
    have := Ap.jump (F := fun k x => strconv_fmtEFG.l2 k x x2 dp nd prec n i) (j17 x2 hx2 hl dp nd prec h0 h1 h2 h3 h4) (fun k x => by
      simp only [strconv_fmtEFG.l2]
      rw [if_neg (by omega)])
    exact this.le (by omega) (by omega)
  | succ d ih =>
    intro i hi hd
    have := Ap.step (F := fun k x => strconv_fmtEFG.l2 k x x2 dp nd prec n i) (ys := [48]) (ih (i + 1) (by omega) (by omega)) (by simp) (fun k x hk hx => by
      simp only [strconv_fmtEFG.l2]
      rw [if_pos (by omega), if_pos (by simp at hx; omega), wr (i + 1) (by omega) (by omega)])
    exact this.le (by omega) (by simp)

theorem l1 (x2 : List Int) (hx2 : ∀ x ∈ x2, 0 ≤ x ∧ x < 128) (hl : x2.length ≤ 100) (dp nd prec : Int) (h0 : -100 ≤ dp) (h1 : dp ≤ 100) (h2 : 0 ≤ nd) (h3 : nd ≤ x2.length) (h4 : prec ≤ 1000) (m : Int) (hm0 : 0 ≤ m) (hm1 : m ≤ 100) (ds : List Int) (hds : ∀ x ∈ ds, 0 ≤ x ∧ x < 128) (hdl : ds.length ≤ 100) (d : Nat) : ∀ i : Int, 0 ≤ i → ((ds.length : Int) - i).toNat = d →
    Ap (fun k x => strconv_fmtEFG.l1 k x x2 dp nd prec m ds (ds.length : Int) i) (d + 4300) (d + 4300) := by
  induction d with
  | zero =>
    intro i hi hd
    have h := l2 x2 hx2 hl dp nd prec h0 h1 h2 h3 h4 (dp - m) (by omega) (dp - m).toNat 0 (by omega) (by omega)
    have := Ap.jump (F := fun k x => strconv_fmtEFG.l1 k x x2 dp nd prec m ds (ds.length : Int) i) h (fun k x => by
      simp only [strconv_fmtEFG.l1]
      rw [if_neg (by omega), wr (dp - m) (by omega) (by omega)])
    exact this.le (by omega) (by omega)
  | succ d ih =>
    intro i hi hd
    have hlt : i.toNat < ds.length := by omega
    have := Ap.step (F := fun k x => strconv_fmtEFG.l1 k x x2 dp nd prec m ds (ds.length : Int) i) (ys := [rd ds i]) (ih (i + 1) (by omega) (by omega)) (by
      intro x hx
      obtain rfl := List.mem_singleton.1 hx
      have : rd ds i = ds[i.toNat] := by simp [rd, List.getD_eq_getElem?_getD, List.getElem?_eq_getElem hlt]
      rw [this]
      exact hds _ (List.getElem_mem hlt)) (fun k x hk hx => by
      simp only [strconv_fmtEFG.l1]
      rw [if_pos (by omega), if_pos (by omega), if_pos (by omega), if_pos (by simp at hx; omega), wr (i + 1) (by omega) (by omega)])
    exact this.le (by omega) (by simp)

theorem j14 (x2 : List Int) (hx2 : ∀ x ∈ x2, 0 ≤ x ∧ x < 128) (hl : x2.length ≤ 100) (dp nd prec : Int) (h0 : -100 ≤ dp) (h1 : dp ≤ 100) (h2 : 0 ≤ nd) (h3 : nd ≤ x2.length) (h4 : prec ≤ 1000) :
    Ap (fun k x => strconv_fmtEFG.j14 k x x2 dp nd prec) 4500 4500 := by
  by_cases hp : dp > 0
  · obtain ⟨m, hm⟩ : ∃ m, m = mn nd dp := ⟨_, rfl⟩
    have hm0 : 0 ≤ m ∧ m ≤ 100 ∧ m ≤ nd := by rw [hm]; unfold mn; split <;> omega
    have h := l1 x2 hx2 hl dp nd prec h0 h1 h2 h3 h4 m hm0.1 hm0.2.1 (x2.take m.toNat) (fun x hx => hx2 x (List.mem_of_mem_take hx)) (by simp; omega) (x2.take m.toNat).length 0 (by omega) (by omega)
    have := Ap.jump (F := fun k x => strconv_fmtEFG.j14 k x x2 dp nd prec) h (fun k x => by
      simp only [strconv_fmtEFG.j14]
      rw [if_pos hp, ← hm, if_pos hm0.1, if_pos (by omega)]
      rfl)
    have hle : (x2.take m.toNat).length ≤ 100 := by simp; omega
    exact this.le (by omega) (by omega)
  · have := Ap.step (F := fun k x => strconv_fmtEFG.j14 k x x2 dp nd prec) (ys := [48]) (j17 x2 hx2 hl dp nd prec h0 h1 h2 h3 h4) (by simp) (fun k x hk hx => by
      simp only [strconv_fmtEFG.j14]
      rw [if_neg hp, if_pos (by simp at hx; omega)])
    exact this.le (by omega) (by simp)

theorem dig (x : Int) (h0 : 0 ≤ x) (h1 : x < 10) : 0 ≤ (x % 256 + 48) % 256 ∧ (x % 256 + 48) % 256 < 128 := by omega

theorem j13 (c e : Int) (hc : 0 ≤ c ∧ c < 128) (h0 : 0 ≤ e) (h1 : e < 1000) : Ap (fun k x => strconv_fmtEFG.j13 k x c e) 1 10 := by
  have e1 : Int.tdiv e 10 = e / 10 := Int.tdiv_eq_ediv_of_nonneg h0
  have e2 : Int.tdiv e 100 = e / 100 := Int.tdiv_eq_ediv_of_nonneg h0
  have e3 : Int.tmod e 10 = e % 10 := Int.tmod_eq_emod_of_nonneg h0
  by_cases c1 : e < 10
  · refine ⟨[c, 48, (e % 256 + 48) % 256], ?_, by simp, fun k l hk hl => ?_⟩
    · have := dig e h0 c1
      intro x hx
      simp only [List.mem_cons, List.not_mem_nil, or_false] at hx
      rcases hx with rfl | rfl | rfl
      · exact hc
      · omega
      · exact this
    · obtain ⟨j, rfl⟩ : ∃ j, k = j + 1 := ⟨k - 1, by omega⟩
      simp only [strconv_fmtEFG.j13, Option.bind_some]
      rw [if_pos (by omega), if_pos c1, if_pos (by simp; omega)]
      simp
  by_cases c2 : e < 100
  · refine ⟨[c, (wrap64 (Int.tdiv e 10) % 256 + 48) % 256, (Int.tmod e 10 % 256 + 48) % 256], ?_, by simp, fun k l hk hl => ?_⟩
    · rw [e1, e3, wr (e / 10) (by omega) (by omega)]
      have d1 := dig (e / 10) (by omega) (by omega)
      have d2 := dig (e % 10) (by omega) (by omega)
      intro x hx
      simp only [List.mem_cons, List.not_mem_nil, or_false] at hx
      rcases hx with rfl | rfl | rfl
      · exact hc
      · exact d1
      · exact d2
    · obtain ⟨j, rfl⟩ : ∃ j, k = j + 1 := ⟨k - 1, by omega⟩
      simp only [strconv_fmtEFG.j13, Option.bind_some]
      rw [if_pos (by omega), if_neg c1, if_pos c2, if_pos (by simp; omega)]
      simp
  · refine ⟨[c, (wrap64 (Int.tdiv e 100) % 256 + 48) % 256, wrap64 (Int.tdiv e 10) % 256 % 10 + 48, (Int.tmod e 10 % 256 + 48) % 256], ?_, by simp, fun k l hk hl => ?_⟩
    · rw [e1, e2, e3, wr (e / 10) (by omega) (by omega), wr (e / 100) (by omega) (by omega)]
      have d1 := dig (e / 100) (by omega) (by omega)
      have d2 := dig (e % 10) (by omega) (by omega)
      intro x hx
      simp only [List.mem_cons, List.not_mem_nil, or_false] at hx
      rcases hx with rfl | rfl | rfl | rfl
      · exact hc
      · exact d1
      · omega
      · exact d2
    · obtain ⟨j, rfl⟩ : ∃ j, k = j + 1 := ⟨k - 1, by omega⟩
      simp only [strconv_fmtEFG.j13, Option.bind_some]
      rw [if_pos (by omega), if_neg c1, if_neg c2, if_pos (by simp; omega)]
      simp

theorem j12 (e : Int) (h0 : -1000 < e) (h1 : e < 1000) : Ap (fun k x => strconv_fmtEFG.j12 k x e) 2 10 := by
  by_cases c : e < 0
  · exact Ap.jump (F := fun k x => strconv_fmtEFG.j12 k x e) (j13 45 (-e) (by decide) (by omega) (by omega)) (fun k x => by
      simp only [strconv_fmtEFG.j12]
      rw [if_pos c, wr (-e) (by omega) (by omega)])
  · exact Ap.jump (F := fun k x => strconv_fmtEFG.j12 k x e) (j13 43 e (by decide) (by omega) h1) (fun k x => by
      simp only [strconv_fmtEFG.j12]
      rw [if_neg c])

theorem j11 (dp nd c : Int) (hc : 0 ≤ c ∧ c < 128) (h0 : -900 < dp) (h1 : dp < 900) : Ap (fun k x => strconv_fmtEFG.j11 k x dp nd c) 3 20 := by
  by_cases h : nd = 0
  · have := Ap.step (F := fun k x => strconv_fmtEFG.j11 k x dp nd c) (ys := [c]) (j12 0 (by omega) (by omega)) (by simpa using hc) (fun k x hk hx => by
      simp only [strconv_fmtEFG.j11, Option.bind_some]
      rw [if_pos (by simp at hx; omega), if_pos h])
    exact this.le (by omega) (by simp)
  · have := Ap.step (F := fun k x => strconv_fmtEFG.j11 k x dp nd c) (ys := [c]) (j12 (dp - 1) (by omega) (by omega)) (by simpa using hc) (fun k x hk hx => by
      simp only [strconv_fmtEFG.j11, Option.bind_some]
      rw [if_pos (by simp at hx; omega), if_neg h, wr (dp - 1) (by omega) (by omega)])
    exact this.le (by omega) (by simp)

theorem l0 (dp nd c : Int) (hc : 0 ≤ c ∧ c < 128) (h0 : -900 < dp) (h1 : dp < 900) (n : Int) (hn : n ≤ 10000) (d : Nat) : ∀ i : Int, 0 ≤ i → (n - i).toNat = d →
    Ap (fun k x => strconv_fmtEFG.l0 k x dp nd c n i) (d + 4) (d + 20) := by
  induction d with
  | zero =>
    intro i hi hd
    exact (Ap.jump (F := fun k x => strconv_fmtEFG.l0 k x dp nd c n i) (j11 dp nd c hc h0 h1) (fun k x => by
      simp only [strconv_fmtEFG.l0]
      rw [if_neg (by omega)])).le (by omega) (by omega)
  | succ d ih =>
    intro i hi hd
    have := Ap.step (F := fun k x => strconv_fmtEFG.l0 k x dp nd c n i) (ys := [48]) (ih (i + 1) (by omega) (by omega)) (by simp) (fun k x hk hx => by
      simp only [strconv_fmtEFG.l0]
      rw [if_pos (by omega), if_pos (by simp at hx; omega), wr (i + 1) (by omega) (by omega)])
    exact this.le (by omega) (by simp)

theorem j9 (dp nd c prec i : Int) (hc : 0 ≤ c ∧ c < 128) (h0 : -900 < dp) (h1 : dp < 900) (hp0 : -1000 ≤ prec) (hp : prec ≤ 1000) (hi : 0 ≤ i) (hi1 : i ≤ 1000) : Ap (fun k x => strconv_fmtEFG.j9 k x dp nd prec c i) 1100 1100 := by
  have h := l0 dp nd c hc h0 h1 (prec + 1 - i) (by omega) (prec + 1 - i).toNat 0 (by omega) (by omega)
  exact (Ap.jump (F := fun k x => strconv_fmtEFG.j9 k x dp nd prec c i) h (fun k x => by
    simp only [strconv_fmtEFG.j9]
    rw [wr (prec + 1) (by omega) (by omega), wr (prec + 1 - i) (by omega) (by omega)])).le (by omega) (by omega)

theorem j8 (x2 : List Int) (hx2 : ∀ x ∈ x2, 0 ≤ x ∧ x < 128) (hl : x2.length ≤ 100) (dp nd prec c ch : Int) (hc : 0 ≤ c ∧ c < 128) (hch : 0 ≤ ch ∧ ch < 128) (h0 : -900 < dp) (h1 : dp < 900) (h2 : 0 ≤ nd) (h3 : nd ≤ x2.length) (hp0 : -1000 ≤ prec) (hp : prec ≤ 900) :
    Ap (fun k x => strconv_fmtEFG.j8 k x x2 dp nd prec c ch) 1300 1300 := by
  by_cases g : prec > 0
  · obtain ⟨m, hm⟩ : ∃ m, m = mn nd (prec + 1) := ⟨_, rfl⟩
    have hm0 : m ≤ nd ∧ 0 ≤ m ∧ m ≤ 100 := by rw [hm]; unfold mn; split <;> omega
    by_cases g2 : 1 < m
    · have := Ap.step (F := fun k x => strconv_fmtEFG.j8 k x x2 dp nd prec c ch) (ys := [ch] ++ [46] ++ (x2.take m.toNat).drop 1) (j9 dp nd c prec m hc h0 h1 hp0 (by omega) (by omega) (by omega)) (by
        intro x hx
        simp only [List.mem_append, List.mem_singleton] at hx
        rcases hx with (rfl | rfl) | hx
        · exact hch
        · omega
        · exact hx2 x (List.mem_of_mem_take (List.mem_of_mem_drop hx))) (fun k x hk hx => by
        simp only [strconv_fmtEFG.j8, Option.bind_some]
        rw [wr (prec + 1) (by omega) (by omega), ← hm]
        simp only [List.length_append, List.length_cons, List.length_nil, List.length_drop, List.length_take] at hx ⊢
        rw [if_pos (by omega), if_pos g, if_pos (by omega), if_pos g2, if_pos (by omega), if_pos (by omega), if_pos (by omega)]
        simp)
      exact this.le (by omega) (by simp; omega)
    · have := Ap.step (F := fun k x => strconv_fmtEFG.j8 k x x2 dp nd prec c ch) (ys := [ch] ++ [46]) (j9 dp nd c prec 1 hc h0 h1 hp0 (by omega) (by omega) (by omega)) (by
        intro x hx
        simp only [List.mem_append, List.mem_singleton] at hx
        rcases hx with rfl | rfl
        · exact hch
        · omega) (fun k x hk hx => by
        simp only [strconv_fmtEFG.j8, Option.bind_some]
        rw [wr (prec + 1) (by omega) (by omega), ← hm]
        simp only [List.length_append, List.length_cons, List.length_nil] at hx ⊢
        rw [if_pos (by omega), if_pos g, if_pos (by omega), if_neg g2]
        simp)
      exact this.le (by omega) (by simp)
  · have := Ap.step (F := fun k x => strconv_fmtEFG.j8 k x x2 dp nd prec c ch) (ys := [ch]) (j11 dp nd c hc h0 h1) (by simpa using hch) (fun k x hk hx => by
      simp only [strconv_fmtEFG.j8, Option.bind_some]
      rw [if_pos (by simp at hx; omega), if_neg g])
    exact this.le (by omega) (by simp)

theorem j7 (x2 : List Int) (hx2 : ∀ x ∈ x2, 0 ≤ x ∧ x < 128) (hl : x2.length ≤ 100) (dp nd prec c : Int) (hc : 0 ≤ c ∧ c < 128) (h0 : -900 < dp) (h1 : dp < 900) (h2 : 0 ≤ nd) (h3 : nd ≤ x2.length) (hp0 : -1000 ≤ prec) (hp : prec ≤ 900) :
    Ap (fun k x => strconv_fmtEFG.j7 k x x2 dp nd prec c) 1301 1300 := by
  by_cases h : nd = 0
  · exact Ap.jump (F := fun k x => strconv_fmtEFG.j7 k x x2 dp nd prec c) (j8 x2 hx2 hl dp nd prec c 48 hc (by decide) h0 h1 h2 h3 hp0 hp) (fun k x => by
      simp only [strconv_fmtEFG.j7]
      rw [if_pos h])
  · have hlt : 0 < x2.length := by omega
    have hr : 0 ≤ rd x2 0 ∧ rd x2 0 < 128 := by
      have : rd x2 0 = x2[0] := by simp [rd, List.getD_eq_getElem?_getD, List.getElem?_eq_getElem hlt]
      rw [this]
      exact hx2 _ (List.getElem_mem hlt)
    exact Ap.jump (F := fun k x => strconv_fmtEFG.j7 k x x2 dp nd prec c) (j8 x2 hx2 hl dp nd prec c (rd x2 0) hc hr h0 h1 h2 h3 hp0 hp) (fun k x => by
      simp only [strconv_fmtEFG.j7]
      rw [if_neg h, if_pos (by omega)])

theorem efgE (x2 : List Int) (hx2 : ∀ x ∈ x2, 0 ≤ x ∧ x < 128) (hl : x2.length ≤ 100) (neg : Bool) (dp nd prec : Int) (h0 : -900 < dp) (h1 : dp < 900) (h2 : 0 ≤ nd) (h3 : nd ≤ x2.length) (hp0 : -1000 ≤ prec) (hp : prec ≤ 900) :
    Ap (fun k x => strconv_fmtEFG.j5 k x neg x2 dp nd prec 101) 1303 1301 := by
  have h7 := j7 x2 hx2 hl dp nd prec 101 (by decide) h0 h1 h2 h3 hp0 hp
  refine (Ap.jump (F := fun k x => strconv_fmtEFG.j5 k x neg x2 dp nd prec 101) (G := fun k x => strconv_fmtEFG.j6 k x neg x2 dp nd prec 101 101 true) (K := 1302) (m := 1301) ?_ (fun k x => by
    simp only [strconv_fmtEFG.j5]
    rw [if_pos trivial]
    rfl))
  cases neg
  · exact (Ap.jump (F := fun k x => strconv_fmtEFG.j6 k x false x2 dp nd prec 101 101 true) h7 (fun k x => by
      simp only [strconv_fmtEFG.j6]
      rw [if_pos trivial, if_neg (by decide)])).le (by omega) (by omega)
  · have := Ap.step (F := fun k x => strconv_fmtEFG.j6 k x true x2 dp nd prec 101 101 true) (ys := [45]) h7 (by simp) (fun k x hk hx => by
      simp only [strconv_fmtEFG.j6]
      rw [if_pos trivial, if_pos trivial, if_pos (by simp at hx; omega)])
    exact this.le (by omega) (by simp)

theorem efgF (x2 : List Int) (hx2 : ∀ x ∈ x2, 0 ≤ x ∧ x < 128) (hl : x2.length ≤ 100) (neg : Bool) (dp nd prec : Int) (h0 : -100 ≤ dp) (h1 : dp ≤ 100) (h2 : 0 ≤ nd) (h3 : nd ≤ x2.length) (h4 : prec ≤ 1000) :
    Ap (fun k x => strconv_fmtEFG.j5 k x neg x2 dp nd prec 102) 4502 4501 := by
  have h7 := j14 x2 hx2 hl dp nd prec h0 h1 h2 h3 h4
  refine (Ap.jump (F := fun k x => strconv_fmtEFG.j5 k x neg x2 dp nd prec 102) (G := fun k x => strconv_fmtEFG.j6 k x neg x2 dp nd prec 102 102 false) (K := 4501) (m := 4501) ?_ (fun k x => by
    simp only [strconv_fmtEFG.j5]
    rw [if_neg (by decide)]
    rfl))
  cases neg
  · exact (Ap.jump (F := fun k x => strconv_fmtEFG.j6 k x false x2 dp nd prec 102 102 false) h7 (fun k x => by
      simp only [strconv_fmtEFG.j6]
      rw [if_neg (by decide), if_pos trivial, if_neg (by decide)])).le (by omega) (by omega)
  · have := Ap.step (F := fun k x => strconv_fmtEFG.j6 k x true x2 dp nd prec 102 102 false) (ys := [45]) h7 (by simp) (fun k x hk hx => by
      simp only [strconv_fmtEFG.j6]
      rw [if_neg (by decide), if_pos trivial, if_pos trivial, if_pos (by simp at hx; omega)])
    exact this.le (by omega) (by simp)

/-- fmtEFG with 'g' at the shortest. -/
theorem efg (x2 : List Int) (hx2 : ∀ x ∈ x2, 0 ≤ x ∧ x < 128) (hl : x2.length ≤ 100) (neg : Bool) (dp nd prec : Int) (h0 : -900 < dp) (h1 : dp < 900) (h2 : 0 ≤ nd) (h3 : nd ≤ x2.length) (hp0 : -1 ≤ prec) (hp : prec ≤ 100) :
    Ap (fun k x => strconv_fmtEFG.f k x neg x2 dp nd prec 103 true) 4600 4600 := by
  have w1 : wrap64 (dp - 1) = dp - 1 := wr _ (by omega) (by omega)
  -- behind the choice of the form
  have h4 : Ap (fun k x => strconv_fmtEFG.j4 k x neg x2 dp nd prec 103 (decide (dp - 1 < -4 ∨ dp - 1 ≥ 6))) 4503 4501 := by
    by_cases c : dp - 1 < -4 ∨ dp - 1 ≥ 6
    · rw [decide_eq_true c]
      by_cases c2 : prec > nd
      · exact (Ap.jump (F := fun k x => strconv_fmtEFG.j4 k x neg x2 dp nd prec 103 true) (efgE x2 hx2 hl neg dp nd (nd - 1) h0 h1 h2 h3 (by omega) (by omega)) (fun k x => by
          simp only [strconv_fmtEFG.j4]
          rw [if_pos trivial, if_pos c2, wr (nd - 1) (by omega) (by omega)]
          rfl)).le (by omega) (by omega)
      · exact (Ap.jump (F := fun k x => strconv_fmtEFG.j4 k x neg x2 dp nd prec 103 true) (efgE x2 hx2 hl neg dp nd (prec - 1) h0 h1 h2 h3 (by omega) (by omega)) (fun k x => by
          simp only [strconv_fmtEFG.j4]
          rw [if_pos trivial, if_neg c2, wr (prec - 1) (by omega) (by omega)]
          rfl)).le (by omega) (by omega)
    · rw [decide_eq_false c]
      by_cases c2 : prec > dp
      · exact (Ap.jump (F := fun k x => strconv_fmtEFG.j4 k x neg x2 dp nd prec 103 false) (efgF x2 hx2 hl neg dp nd (mx (nd - dp) 0) (by omega) (by omega) h2 h3 (by unfold mx; split <;> omega)) (fun k x => by
          simp only [strconv_fmtEFG.j4]
          rw [if_neg (by decide), if_pos c2, wr (nd - dp) (by omega) (by omega)])).le (by omega) (by omega)
      · exact (Ap.jump (F := fun k x => strconv_fmtEFG.j4 k x neg x2 dp nd prec 103 false) (efgF x2 hx2 hl neg dp nd (mx (prec - dp) 0) (by omega) (by omega) h2 h3 (by unfold mx; split <;> omega)) (fun k x => by
          simp only [strconv_fmtEFG.j4]
          rw [if_neg (by decide), if_neg c2, wr (prec - dp) (by omega) (by omega)])).le (by omega) (by omega)
  have h3' : Ap (fun k x => strconv_fmtEFG.j3 k x neg x2 dp nd prec 103 6) 4504 4501 := Ap.jump h4 (fun k x => by
    simp only [strconv_fmtEFG.j3]
    rw [w1]
    by_cases c : dp - 1 < -4
    · rw [if_pos c, decide_eq_true (Or.inl c)]
    · rw [if_neg c]
      congr 1
      by_cases c2 : dp - 1 ≥ 6
      · rw [decide_eq_true c2, decide_eq_true (Or.inr c2)]
      · rw [decide_eq_false c2, decide_eq_false (by omega)])
  have h2' : ∀ y, Ap (fun k x => strconv_fmtEFG.j2 k x neg x2 dp nd prec 103 true y) 4505 4501 := fun y => Ap.jump h3' (fun k x => by
    simp only [strconv_fmtEFG.j2]
    rw [if_pos trivial])
  have h1' : ∀ y b, Ap (fun k x => strconv_fmtEFG.j1 k x neg x2 dp nd prec 103 true y b) 4506 4501 := fun y b => by
    cases b
    · exact Ap.jump (h2' y) (fun k x => by
        simp only [strconv_fmtEFG.j1]
        rw [if_neg (by decide)])
    · exact Ap.jump (h2' nd) (fun k x => by
        simp only [strconv_fmtEFG.j1]
        rw [if_pos trivial])
  have h0' : Ap (fun k x => strconv_fmtEFG.j0 k x neg x2 dp nd prec 103 true true) 4507 4501 := by
    by_cases c : prec > nd
    · exact Ap.jump (h1' prec (decide (nd ≥ dp))) (fun k x => by
        simp only [strconv_fmtEFG.j0]
        rw [if_pos trivial, if_pos c])
    · exact Ap.jump (h1' prec false) (fun k x => by
        simp only [strconv_fmtEFG.j0]
        rw [if_pos trivial, if_neg c])
  exact (Ap.same h0' (fun k x => by unfold strconv_fmtEFG.f; rw [if_pos rfl])).le (by omega) (by omega)

end Go.Proofs.YtdggjpdhbailpaaDoor.Efp
