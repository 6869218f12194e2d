/- NewEncoder without an indent and without delimiters of the caller's. Conditions: none on the world. -/
import Derived.Test.YtdggjpdhbailpaaDoorZGEn0
import Derived.Laws.StructEq
import Derived.Laws.NewBlocks
import Derived.Laws.Pointers
import Derived.Test.YtdggjpdhbailpaaDoorZGTd2
import Derived.Test.YtdggjpdhbailpaaDoorZOk
import Derived.Test.YtdggjpdhbailpaaDoorZLf
namespace Go.Proofs.YtdggjpdhbailpaaDoor.Ne
set_option linter.unusedSimpArgs false
set_option linter.unusedVariables false
open Go.RowKit Go.Proofs.YtdggjpdhbailpaaDoorW.PrintWords Go.Proofs.YtdggjpdhbailpaaDoorW.PrintLast Go.Proofs.YtdggjpdhbailpaaDoorW.PrintMore Go.Proofs.YtdggjpdhbailpaaDoor.En0 Go.Proofs.YtdggjpdhbailpaaDoor.PFnTextAscii

/-- No elder value. -/
@[reducible] def g0 : Gho := ⟨.slice none 0 0, []⟩
@[reducible] def h0 : Hel := ⟨none, .cells #[] 0 (0, 0)⟩
theorem g0_of {w : World} {base : Nat} {ok : Nat → Prop} {v : Value} {xs : List Int} (h : Kd.R (Kd.int .u8) 5 w base ok v xs) : @Kd.G g0 (Kd.int .u8) 5 w base ok v xs :=
  @Kd.G.mk g0 _ _ _ _ _ _ _ h.1 h (Kd.R_nil _ _ _ _ _) (fun _ => Nat.zero_le _)

theorem q00 (W : World) : (Op.equalIn 10000 66 (.agg #[.int .u8 0, .int .u8 0]) (.agg #[.int .u8 0, .int .u8 0])).run Tryd.prog W = .ok true W := by kernel_rfl
theorem q60 (W : World) : (Op.equalIn 10000 66 (.agg #[.int .u8 60, .int .u8 62]) (.agg #[.int .u8 0, .int .u8 0])).run Tryd.prog W = .ok false W := by kernel_rfl
theorem q63 (W : World) : (Op.equalIn 10000 66 (.agg #[.int .u8 60, .int .u8 62]) (.agg #[.int .u8 123, .int .u8 125])).run Tryd.prog W = .ok false W := by kernel_rfl
theorem q66 (W : World) : (Op.equalIn 10000 66 (.agg #[.int .u8 60, .int .u8 62]) (.agg #[.int .u8 60, .int .u8 62])).run Tryd.prog W = .ok true W := by kernel_rfl
theorem qs (W : World) : (Op.equalIn 10000 9 (.string ⟨#[]⟩) (.string ⟨#[]⟩)).run Tryd.prog W = .ok true W := by kernel_rfl

set_option maxHeartbeats 1000000 in
set_option maxRecDepth 100000 in
theorem newe0 (I : ByteArray) (hI : I.size = 0) (asc : Bool) (w : World) :
    Calls Tryd.prog 21 #[.slice none 0 0, .string I, .agg #[.int .u8 0, .int .u8 0], .bool asc] w fun e w' => e = .returned (.tuple #[.pointer (some ⟨w.heap.size + 1, 0, none⟩), .nilIface]) ∧
      w'.heap[w.heap.size + 1]? = some (.cells (cs7 0 (.slice none 0 0) (.slice none 0 0) ⟨#[]⟩ 123 125 asc) 115 (0, 0)) ∧ Below w.heap.size w w' := by
  have k1 := q00
  have k2 := q60
  have k3 := q63
  have k4 := q66
  have k5 := qs
  go_enter Tryd.func21, Tryd.ntmps21
  go_wp2_with fail
  exact bodyPost_ret (v := .tuple #[.pointer (some ⟨w.heap.size + 1, 0, none⟩), .nilIface]) (by simp [results, Tryd.results21, go_sem]) rfl ⟨rfl, by rw [show w.heap.size + 1 = (w.alloc (Obj.cells #[Value.int .u8 0, .int .u8 0] 66)).heap.size from by simp]; exact blk_new _ (Obj.cells (cs7 0 (.slice none 0 0) (.slice none 0 0) ⟨#[]⟩ 123 125 asc) 115), below_alloc (below_alloc (Below.refl _ _) _) _⟩

theorem new (w : World) :
    Calls Tryd.prog 21 #[.slice none 0 0, .string ⟨#[]⟩, .agg #[.int .u8 0, .int .u8 0], .bool false] w fun e w' => e = .returned (.tuple #[.pointer (some ⟨w.heap.size + 1, 0, none⟩), .nilIface]) ∧
      @At g0 h0 w' w.heap.size (w.heap.size + 1) ⟨#[]⟩ 123 125 false 0 (.slice none 0 0) (.slice none 0 0) [] [] ∧ Below w.heap.size w w' :=
  (newe0 ⟨#[]⟩ rfl false w).mono fun e w' h => ⟨h.1, @At.mk g0 h0 _ _ _ _ _ _ _ _ _ _ _ _ h.2.1 (by omega) (Kd.R_nil _ _ _ _ _) (g0_of (Kd.R_nil _ _ _ _ _)) rfl (fun q hq => (by cases hq)), h.2.2⟩

end Go.Proofs.YtdggjpdhbailpaaDoor.Ne

/- The encoder between two calls: its last type and what it has written, as a fold over the calls. Conditions: as in Td2; no indent. -/
namespace Go.Proofs.YtdggjpdhbailpaaDoor.St
set_option linter.unusedVariables false
set_option linter.unusedSectionVars false
open Go.RowKit Go.Proofs.YtdggjpdhbailpaaDoorW.PrintWords Go.Proofs.YtdggjpdhbailpaaDoorW.PrintLast Go.Proofs.YtdggjpdhbailpaaDoorW.PrintMore Go.Proofs.YtdggjpdhbailpaaDoor.As1 Go.Proofs.YtdggjpdhbailpaaDoor.En0 Go.Proofs.YtdggjpdhbailpaaDoor.Bl Go.Proofs.YtdggjpdhbailpaaDoor.Pn2 Go.Proofs.YtdggjpdhbailpaaDoor.Wr Go.Proofs.YtdggjpdhbailpaaDoor.Td Go.Proofs.YtdggjpdhbailpaaDoor.Td2 Go.Proofs.YtdggjpdhbailpaaDoor.Ok Go.Proofs.YtdggjpdhbailpaaDoor.Ne Go.Proofs.YtdggjpdhbailpaaDoor.PFnTextAscii

def stp (R : TOp → List Int) (s : Int × List Int) (o : TOp) : Int × List Int := (lastOf o.d, (s.2 ++ preOf [] s.1 (lastOf o.d) []) ++ R o)
def run (R : TOp → List Int) (s : Int × List Int) (ops : List TOp) : Int × List Int := ops.foldl (stp R) s
theorem run_nil (R : TOp → List Int) (s : Int × List Int) : run R s [] = s := rfl
theorem run_split (R : TOp → List Int) (s : Int × List Int) (ops : List TOp) (p : Nat) : run R (run R s (ops.take p)) (ops.drop p) = run R s ops := by
  unfold run
  rw [← List.foldl_append, List.take_append_drop]
theorem run_snoc (R : TOp → List Int) (s : Int × List Int) (ops : List TOp) (i : Nat) (h : i < ops.length) : run R s (ops.take (i + 1)) = stp R (run R s (ops.take i)) (rdOp ops (i : Int)) := by
  have e : ops.take (i + 1) = ops.take i ++ [rdOp ops (i : Int)] := by
    rw [List.take_add_one]
    congr 1
    simp [rdOp, List.getD_eq_getElem?_getD, h]
  unfold run
  rw [e, List.foldl_append]
  rfl
theorem run_more (R : TOp → List Int) (ops : List TOp) : ∀ s : Int × List Int, ∃ t, (run R s ops).2 = s.2 ++ t := by
  induction ops with
  | nil => exact fun s => ⟨[], by simp [run]⟩
  | cons o r ih =>
    intro s
    obtain ⟨t, ht⟩ := ih (stp R s o)
    refine ⟨preOf [] s.1 (lastOf o.d) [] ++ R o ++ t, ?_⟩
    show (run R (stp R s o) r).2 = _
    rw [ht]
    simp [stp]
theorem run_ne (R : TOp → List Int) (o : TOp) (r : List TOp) (s : Int × List Int) (h : R o ≠ []) : (run R s (o :: r)).2 ≠ [] := by
  obtain ⟨t, ht⟩ := run_more R r (stp R s o)
  show (run R (stp R s o) r).2 ≠ []
  rw [ht]
  intro e
  rw [List.append_eq_nil_iff] at e
  have := e.1
  unfold stp at this
  rw [List.append_eq_nil_iff] at this
  exact h this.2
theorem lastOf_la (d : Int) : lastOf d = 0 ∨ lastOf d = 1 ∨ lastOf d = 2 ∨ lastOf d = 4 ∨ lastOf d = 8 := by
  unfold lastOf
  split
  · exact .inr (.inl rfl)
  split
  · exact .inr (.inr (.inr (.inl rfl)))
  split
  · exact .inr (.inr (.inr (.inr rfl)))
  · exact .inr (.inr (.inl rfl))

/-- The encoder in the state s, behind at most i calls. -/
def St (γ_ : Gho) (η_ : Hel) (w0 w : World) (b : Nat) (s : Int × List Int) (i : Nat) : Prop :=
  Below w0.heap.size w0 w ∧ (∃ vI vO, At w w0.heap.size b ⟨#[]⟩ 123 125 false s.1 vI vO [] s.2) ∧ (s.1 = 0 ∨ s.1 = 1 ∨ s.1 = 2 ∨ s.1 = 4 ∨ s.1 = 8) ∧ s.2.length ≤ 120000 * i

theorem St.below {γ_ : Gho} {η_ : Hel} {w0 w w1 : World} {b : Nat} {s : Int × List Int} {i : Nat} (h : St γ_ η_ w0 w b s i) (hb : Below w.heap.size w w1) : St γ_ η_ w0 w1 b s i := by
  obtain ⟨h1, ⟨vI, vO, h2⟩, h3⟩ := h
  exact ⟨below_then h1 h1.size hb, ⟨vI, vO, h2.below hb⟩, h3⟩

theorem step {T : World → Prop} {R : TOp → List Int} {o : TOp} (hd : Does T o (R o)) {γ_ : Gho} {η_ : Hel} {w0 w : World} (hT : T w0) {b : Nat} {s : Int × List Int} {i : Nat} (h : St γ_ η_ w0 w b s i) (hi : i ≤ 10000) :
    Calls Tryd.prog 22 #[.pointer (some ⟨b, 0, none⟩), opV o] w fun e w' => e = .returned (.tuple #[]) ∧ St γ_ η_ w0 w' b (stp R s o) (i + 1) := by
  obtain ⟨h1, hA, hla, hlen⟩ := h
  have hE : bytesOf ⟨#[]⟩ = [] := rfl
  have hp : Pre w0 w b ⟨#[]⟩ 123 125 false s.1 (lastOf o.d) [] s.2 := ⟨hA, hla, .inl hE, h1, rfl, by show s.2.length + 8 * 0 + 8 * 0 + 100000 ≤ _; omega⟩
  refine (hd.2 γ_ η_ w0 hT b s.1 ⟨#[]⟩ [] s.2 w hp).mono ?_
  rintro e w' ⟨rfl, ⟨r, vI, vO, ⟨rfl, hr⟩, hA'⟩, hB⟩
  rw [hE] at hA'
  have hi2 : indOf [] s.1 (lastOf o.d) [] = [] := by unfold indOf; rw [if_pos rfl]
  rw [hi2] at hA'
  have p1 := preOf_le (I := []) (last := s.1) (nx := lastOf o.d) (ind := [])
  refine ⟨rfl, hB, ⟨vI, vO, hA'⟩, lastOf_la _, ?_⟩
  show ((s.2 ++ preOf [] s.1 (lastOf o.d) []) ++ R o).length ≤ _
  rw [List.length_append, List.length_append]
  simp only [List.length_nil] at p1
  omega

/-- The own row becomes the elder value as well; a new block is kept. -/
theorem St.snap {γ_ : Gho} {η_ : Hel} {w0 w : World} {b : Nat} {s : Int × List Int} {i : Nat} (h : St γ_ η_ w0 w b s i) :
    ∃ A c, s.2.length ≤ c ∧ w.cell? ⟨b, 0, none⟩ = some (.int .u8 s.1) ∧ w.cell? ⟨b, 1, none⟩ = some (.slice none 0 0) ∧ w.cell? ⟨b, 2, none⟩ = some (.slice A s.2.length c) ∧
      (∀ (W : World) (q : Nat) (o : Obj), Below w.heap.size w W → w.heap.size ≤ q → W.heap[q]? = some o → St ⟨.slice A s.2.length c, s.2⟩ ⟨some q, o⟩ w0 W b s i) := by
  obtain ⟨h1, ⟨vI, vO, hA⟩, h3⟩ := h
  have hN := hA.hN
  subst hN
  obtain ⟨A, c, rfl, hle, _⟩ := Kd.G_reads hA.hO
  refine ⟨A, c, hle, hA.c0, hA.c1, hA.c2, fun W q o hb hq hW => ⟨below_then h1 h1.size hb, ⟨.slice none 0 0, .slice A s.2.length c, ?_⟩, h3⟩⟩
  have hlt := hA.lt
  have hR : Kd.R (Kd.int .u8) 5 w w0.heap.size (fun k => k ≠ b ∧ some k ≠ some q) (.slice A s.2.length c) s.2 :=
    Kd.R_mono (Kd.R_bound hA.hO.row) (fun k hk => ⟨hk.1.1, fun e => by have h4 := hk.2.2.1; injection e with e; omega⟩)
  have hR2 := Kd.R_below hR hb
  exact @At.mk ⟨_, _⟩ ⟨some q, o⟩ _ _ _ _ _ _ _ _ _ _ _ _ (blk_below hA.blk hb) hA.le (Kd.R_nil _ _ _ _ _) (@Kd.G.mk ⟨_, _⟩ _ _ _ _ _ _ _ hR2.1 hR2 hR2 (fun _ => Nat.le_refl _)) rfl (fun k hk => by injection hk with hk; subst hk; exact ⟨by omega, hW⟩)
theorem St.held {γ_ : Gho} {q : Nat} {o : Obj} {w0 w : World} {b : Nat} {s : Int × List Int} {i : Nat} (h : St γ_ ⟨some q, o⟩ w0 w b s i) : q ≠ b ∧ w.heap[q]? = some o := by
  obtain ⟨-, ⟨vI, vO, hA⟩, -, -⟩ := h
  exact @At.hS γ_ ⟨some q, o⟩ _ _ _ _ _ _ _ _ _ _ _ _ hA q rfl
theorem St.blk {γ_ : Gho} {η_ : Hel} {w0 w : World} {b : Nat} {s : Int × List Int} {i : Nat} (h : St γ_ η_ w0 w b s i) : ∃ vO, w.heap[b]? = some (.cells (cs7 s.1 (.slice none 0 0) vO ⟨#[]⟩ 123 125 false) 115 (0, 0)) := by
  obtain ⟨-, ⟨vI, vO, hA⟩, -, -⟩ := h
  have hN := hA.hN
  subst hN
  exact ⟨vO, hA.blk⟩
/-- The three stores of Reset. -/
theorem St.reset {γ_ : Gho} {η_ : Hel} {vO : Value} {w0 w : World} {b : Nat} {s t : Int × List Int} {i j : Nat} (h : St γ_ η_ w0 w b s i) (he : γ_.v = vO) (hl : γ_.l = t.2) (ht : t.1 = 0 ∨ t.1 = 1 ∨ t.1 = 2 ∨ t.1 = 4 ∨ t.1 = 8) (hj : t.2.length ≤ 120000 * j) :
    St g0 h0 w0 (((w.setCell ⟨b, 0, none⟩ (.int .u8 t.1)).setCell ⟨b, 1, none⟩ (.slice none 0 0)).setCell ⟨b, 2, none⟩ vO) b t j := by
  obtain ⟨h1, ⟨vI, vO2, hA⟩, -, -⟩ := h
  have hN := hA.hN
  subst hN
  have hR : Kd.R (Kd.int .u8) 5 w w0.heap.size (fun k => k ≠ b ∧ some k ≠ none) vO t.2 := by
    have := hA.hO.elder
    rw [he, hl] at this
    exact Kd.R_mono this (fun k hk => ⟨hk.1, by simp⟩)
  have hR3 := Kd.R_far (Kd.R_far (Kd.R_far hR (p := ⟨b, 0, none⟩) (fun _ hk => hk.1) (.int .u8 t.1)) (p := ⟨b, 1, none⟩) (fun _ hk => hk.1) (.slice none 0 0)) (p := ⟨b, 2, none⟩) (fun _ hk => hk.1) vO
  refine ⟨((h1.setCell hA.le _).setCell hA.le _).setCell hA.le _, ⟨.slice none 0 0, vO, ?_⟩, ht, hj⟩
  exact @At.mk g0 h0 _ _ _ _ _ _ _ _ _ _ _ _ (blk_put (blk_put (blk_put hA.blk 0 _ rfl) 1 _ rfl) 2 _ rfl) hA.le (Kd.R_nil _ _ _ _ _) (g0_of hR3) rfl (fun q hq => (by cases hq))

end Go.Proofs.YtdggjpdhbailpaaDoor.St
