/- What the calls of an encoder do to its last type and its indents: calls that open and close evenly never cut more indent than there is. Conditions: none. -/
import Derived.Test.YtdggjpdhbailpaaDoorZWords
namespace Go.Proofs.YtdggjpdhbailpaaDoor.Bl

structure TOp where
  d : Int
  s : ByteArray
  b : Bool
  i : Int
  u : Int
  f : Int
  z : Int

def lastOf (d : Int) : Int := if d = 1 then 1 else if d = 8 then 4 else if d = 9 then 8 else 2

/-- The indents behind prepareNext. -/
def indOf (I : List Int) (last nx : Int) (ind : List Int) : List Int :=
  if I = [] then ind else if last = 1 then ind else if last = 4 ∧ nx ≠ 8 then ind ++ I
  else if (last = 2 ∨ last = 8) ∧ nx = 8 then ind.take (ind.length - I.length) else ind

def okAt (I : List Int) (last nx : Int) (ind : List Int) : Prop := I = [] ∨ ¬ ((last = 2 ∨ last = 8) ∧ nx = 8) ∨ I.length ≤ ind.length

inductive Runs (I : List Int) : Int × List Int → List TOp → Int × List Int → Prop
  | nil (s) : Runs I s [] s
  | cons (s : Int × List Int) (o : TOp) (r : List TOp) (t) : okAt I s.1 (lastOf o.d) s.2 → Runs I (lastOf o.d, indOf I s.1 (lastOf o.d) s.2) r t → Runs I s (o :: r) t

theorem Runs.append {I : List Int} {s t u : Int × List Int} {a b : List TOp} (h : Runs I s a t) (k : Runs I t b u) : Runs I s (a ++ b) u := by
  induction h with
  | nil s => exact k
  | cons s o r t h1 _ ih => exact .cons s o _ u h1 (ih k)

inductive Bal : List TOp → Prop
  | nil : Bal []
  | leaf (n v : TOp) (r : List TOp) : n.d = 1 → 2 ≤ v.d → v.d ≤ 7 → Bal r → Bal (n :: v :: r)
  | msg (n s e : TOp) (k r : List TOp) : n.d = 1 → s.d = 8 → e.d = 9 → Bal k → Bal r → Bal (n :: s :: (k ++ e :: r))

theorem Bal.append {a b : List TOp} (h : Bal a) (k : Bal b) : Bal (a ++ b) := by
  induction h with
  | nil => exact k
  | leaf n v r h1 h2 h3 _ ih => exact .leaf n v _ h1 h2 h3 ih
  | msg n s e k' r h1 h2 h3 h4 _ _ ih =>
    have := Bal.msg n s e k' (r ++ b) h1 h2 h3 h4 ih
    simpa using this

theorem Bal.runs {ops : List TOp} (h : Bal ops) (I : List Int) : ∀ (last : Int) (ind : List Int), last = 0 ∨ last = 2 ∨ last = 4 ∨ last = 8 →
    ∃ t, Runs I (last, ind) ops t ∧ (ops = [] → t = (last, ind)) ∧ (ops ≠ [] → (t.1 = 2 ∨ t.1 = 8) ∧ t.2 = if last = 4 then ind ++ I else ind) := by
  induction h with
  | nil => intro last ind _; exact ⟨_, .nil _, fun _ => rfl, fun h => absurd rfl h⟩
  | leaf n v r h1 h2 h3 _ ih =>
    intro last ind hl
    have e1 : lastOf n.d = 1 := by rw [h1]; rfl
    have e2 : lastOf v.d = 2 := by unfold lastOf; rw [if_neg (by omega), if_neg (by omega), if_neg (by omega)]
    have e3 : indOf I last 1 ind = if last = 4 then ind ++ I else ind := by
      unfold indOf
      by_cases hI : I = []
      · subst hI; simp
      · rw [if_neg hI, if_neg (by omega)]
        by_cases h4 : last = 4
        · rw [if_pos ⟨h4, by decide⟩, if_pos h4]
        · rw [if_neg (fun h => h4 h.1), if_neg (fun h => absurd h.2 (by decide)), if_neg h4]
    obtain ⟨t, r1, r2, r3⟩ := ih 2 (if last = 4 then ind ++ I else ind) (.inr (.inl rfl))
    have e4 : ∀ x : List Int, indOf I 1 2 x = x := fun x => by unfold indOf; simp
    refine ⟨t, .cons _ n _ _ (by show okAt I last (lastOf n.d) ind; rw [e1]; exact .inr (.inl (fun h => absurd h.2 (by decide)))) (.cons _ v _ _ ?_ ?_), fun h => (by cases h), fun _ => ?_⟩
    · show okAt I (lastOf n.d) (lastOf v.d) _
      rw [e1]
      exact .inr (.inl (fun h => by rcases h.1 with h | h <;> cases h))
    · show Runs I (lastOf v.d, indOf I (lastOf n.d) (lastOf v.d) (indOf I last (lastOf n.d) ind)) r t
      rw [e1, e2, e4, e3]
      exact r1
    · by_cases hr : r = []
      · rw [r2 hr]
        exact ⟨.inl rfl, rfl⟩
      · obtain ⟨h5, h6⟩ := r3 hr
        exact ⟨h5, by rw [h6, if_neg (by decide)]⟩
  | msg n s e k r h1 h2 h3 _ _ ihk ih =>
    intro last ind hl
    have e1 : lastOf n.d = 1 := by rw [h1]; rfl
    have e2 : lastOf s.d = 4 := by rw [h2]; rfl
    have e5 : lastOf e.d = 8 := by rw [h3]; rfl
    have e3 : indOf I last 1 ind = if last = 4 then ind ++ I else ind := by
      unfold indOf
      by_cases hI : I = []
      · subst hI; simp
      · rw [if_neg hI, if_neg (by omega)]
        by_cases h4 : last = 4
        · rw [if_pos ⟨h4, by decide⟩, if_pos h4]
        · rw [if_neg (fun h => h4 h.1), if_neg (fun h => absurd h.2 (by decide)), if_neg h4]
    generalize hJ : (if last = 4 then ind ++ I else ind) = J at e3 ⊢
    have e4 : ∀ x : List Int, indOf I 1 4 x = x := fun x => by unfold indOf; simp
    obtain ⟨t1, p1, p2, p3⟩ := ihk 4 J (.inr (.inr (.inl rfl)))
    obtain ⟨t, r1, r2, r3⟩ := ih 8 J (.inr (.inr (.inr rfl)))
    have hend : okAt I t1.1 8 t1.2 ∧ indOf I t1.1 8 t1.2 = J := by
      by_cases hk : k = []
      · rw [p2 hk]
        refine ⟨.inr (.inl (fun h => by rcases h.1 with h | h <;> cases h)), ?_⟩
        unfold indOf
        simp
      · obtain ⟨h5, h6⟩ := p3 hk
        rw [if_pos rfl] at h6
        rw [h6]
        refine ⟨.inr (.inr (by simp)), ?_⟩
        unfold indOf
        by_cases hI : I = []
        · subst hI; simp
        · rw [if_neg hI, if_neg (by omega), if_neg (fun h => h.2 rfl), if_pos ⟨h5, rfl⟩]
          simp
    refine ⟨t, .cons _ n _ _ (by show okAt I last (lastOf n.d) ind; rw [e1]; exact .inr (.inl (fun h => absurd h.2 (by decide)))) (.cons _ s _ _ ?_ (Runs.append (t := t1) ?_ (.cons _ e _ _ ?_ ?_))), fun h => (by cases h), fun _ => ?_⟩
    · show okAt I (lastOf n.d) (lastOf s.d) _
      rw [e1]
      exact .inr (.inl (fun h => by rcases h.1 with h | h <;> cases h))
    · show Runs I (lastOf s.d, indOf I (lastOf n.d) (lastOf s.d) (indOf I last (lastOf n.d) ind)) k t1
      rw [e1, e2, e4, e3]
      exact p1
    · rw [e5]; exact hend.1
    · rw [e5, hend.2]; exact r1
    · by_cases hr : r = []
      · rw [r2 hr]
        exact ⟨.inr rfl, rfl⟩
      · obtain ⟨h5, h6⟩ := r3 hr
        exact ⟨h5, by rw [h6, if_neg (by decide)]⟩

end Go.Proofs.YtdggjpdhbailpaaDoor.Bl
