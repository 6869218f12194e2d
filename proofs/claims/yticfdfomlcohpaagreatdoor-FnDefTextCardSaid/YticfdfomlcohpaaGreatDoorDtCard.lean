/-
  FnDefText: for every default value (any kind, any fields) and either form, wherever DefText tells a text, DefMarshal of the value fitted to its kind gives that text; the law returns true and leaves its arguments as they were.
  Conditions: none on the input. The card ties the listed package-level tables to the program's text; of them uint64pow10 is read.
-/
import Derived.Test.YticfdfomlcohpaaGreatDoorDtc
import Derived.Test.YticfdfomlcohpaaGreatDoorRows
import Derived.Test.YticfdfomlcohpaaGreatDoorCards
import Derived.Test.YticfdfomlcohpaaGreatDoorTie
import Derived.WalkKit
import Derived.ProofKit
import Derived.OpenShut
import Derived.ShutString
import Derived.Lay
import Derived.LaidMore
import Derived.SevenTiedAt
import Derived.Carry
import Derived.Lib.SmallJoins
import Derived.Lib.LaidTab
import Derived.Stop.LaidErr
import Derived.MakeChecks

namespace Go.Proofs.YticfdfomlcohpaaGreatDoor.fnDefText
open Go.ChangeShapes Go.WideShapes Go.ChangeAt Go.RowKit
open Go.ChangeMaps (open_string shut_string)
open Go.Proofs.YticfdfomlcohpaaGreatDoor.Dt (V)
theorem own : ownKnob Tryz.prog.godebug = none := by kernel_rfl
theorem laidOut : laidOutB Tryz.prog = true := by kernel_rfl

open Go.Deep (oneCellFields hone_of)

section
variable {H : Type} {enc : TypeId × Value → H} {P : Program} {w : World} {base : Nat} {spare : Nat → Bool} {held : Bool}
/-- A field of a struct of one-cell fields, read by itself. -/
theorem field_at {t : TypeId} {fs : Array Field} {fuel : Nat} {cs : List Value} {x : DataW H × List MemPlace} (hs : P.underlying t = some (.struct fs)) (hone : oneCellFields P fs = true) (h : DataW.trod enc P w base spare held fuel t cs = some x)
    (i : Nat) (f : Field) (v : Value) (hf : fs[i]? = some f) (hv : cs[i]? = some v) : ∃ n y, DataW.trod enc P w base spare held n f.type [v] = some y := by
  obtain ⟨xs, n, _, _, _, hxl, hg⟩ := DataW.trod_struct hs h
  obtain ⟨ho, hk⟩ := hone_of hone i f hf
  have h1 := hg i f hf
  have hi : i < fs.size := (Array.getElem?_eq_some_iff.1 hf).1
  obtain ⟨hc, hcv⟩ := List.getElem?_eq_some_iff.1 hv
  have e : (cs.drop f.offset).take (P.cellsOf f.type) = [v] := by
    rw [ho, hk, List.drop_eq_getElem_cons hc, hcv]
    rfl
  rw [e, List.getElem?_eq_getElem (by omega)] at h1
  exact ⟨n, _, h1⟩
end

set_option maxRecDepth 10000 in
/-- The seven fields of a default value. -/
theorem open_value {H : Type} {enc : TypeId × Value → H} {w : World} {base : Nat} {spare : Nat → Bool} {held : Bool} {v : Value} {d : DataW H} {p : List MemPlace} {r : Reach} {b0 : Nat}
    (hv : Value.okWide Tryz.prog w r b0 24 v) (h : DataW.Trod enc Tryz.prog w base spare held 24 v d p) :
    ∃ (K : Int) (B : Bool) (I U F : Int) (S N : ByteArray), v = V K B I U F S N ∧ (Lit.int .i64 I).wf = true ∧ (Lit.int .u64 U).wf = true ∧ (Lit.int .u64 F).wf = true := by
  have hs := Tryz.underlying24
  obtain ⟨cs, rfl, hsz⟩ := okWide_struct hs hv
  have hC : Tryz.prog.cellsOf 24 = 7 := by kernel_rfl
  obtain ⟨l⟩ := cs
  match l, hsz.trans hC with
  | [c0, c1, c2, c3, c4, c5, c6], _ =>
    obtain ⟨fuel, hf⟩ := h
    have hcl : (Value.agg #[c0, c1, c2, c3, c4, c5, c6]).cells.toList = [c0, c1, c2, c3, c4, c5, c6] := rfl
    rw [hcl] at hf
    have hat := field_at hs (by kernel_rfl) hf
    obtain ⟨_, _, g0⟩ := hat 0 _ c0 rfl rfl
    obtain ⟨_, _, g1⟩ := hat 1 _ c1 rfl rfl
    obtain ⟨_, _, g2⟩ := hat 2 _ c2 rfl rfl
    obtain ⟨_, _, g3⟩ := hat 3 _ c3 rfl rfl
    obtain ⟨_, _, g4⟩ := hat 4 _ c4 rfl rfl
    obtain ⟨_, _, g5⟩ := hat 5 _ c5 rfl rfl
    obtain ⟨_, _, g6⟩ := hat 6 _ c6 rfl rfl
    obtain ⟨K, e0, _, _⟩ := DataW.trod_int Tryz.underlying3 g0
    obtain ⟨B, e1, _⟩ := DataW.trod_bool Tryz.underlying4 g1
    obtain ⟨I, e2, _, w2⟩ := DataW.trod_int Tryz.underlying2 g2
    obtain ⟨U, e3, _, w3⟩ := DataW.trod_int Tryz.underlying22 g3
    obtain ⟨F, e4, _, w4⟩ := DataW.trod_int Tryz.underlying22 g4
    obtain ⟨S, e5, _, _⟩ := DataW.trod_string Tryz.underlying9 g5
    obtain ⟨N, e6, _, _⟩ := DataW.trod_string Tryz.underlying9 g6
    simp only [List.cons.injEq, and_true] at e0 e1 e2 e3 e4 e5 e6
    subst e0 e1 e2 e3 e4 e5 e6
    exact ⟨K, B, I, U, F, S, N, rfl, w2, w3, w4⟩

theorem tab_of {W : World} (hL : laidMetH Tryz.prog Rows.fnDefTextRow.laid W) : Dt5.Tab W := by
  rw [MakeChecks.laidMetH_plain _ _ _ (by kernel_rfl)] at hL
  have h3 := hL.tail.tail.tail
  have e : (Rows.laid_internal_strconv_uint64pow10 : DataW Unit) = Lib.tabData .u64 Lib.pow10Tab := by kernel_rfl
  rw [e] at h3
  exact Lib.tabIs_of_head (g := 2) (by kernel_rfl) (by kernel_rfl) Tryz.underlying150 Tryz.underlying22 (by kernel_rfl) (by kernel_rfl) h3

set_option maxRecDepth 100000 in
theorem lifted (os : Os) (started : os.Started) (H : Type) (enc : TypeId × Value → H) :
    ReturnsInHanded {} Tryz.checked os 3 .any (fun w args => (Rows.fnDefTextSpec.pre enc Tryz.prog Tryz.f3 [] false w args ∧ laidMetH Tryz.prog Rows.fnDefTextRow.laid w) ∧ sizedMet enc Tryz.prog Tryz.f3 (OpenSpec.ofChange Rows.fnDefTextSpec) false w args)
      (Rows.fnDefTextSpec.post enc Tryz.prog Tryz.f3 false true false false) := by
  refine returnsInHanded_of_change_and (C := Tryz.checked) (X := fun w _ => laidMetH Tryz.prog Rows.fnDefTextRow.laid w) (fun _ _ _ hh h => h.of_heap hh) own started (by kernel_rfl) Tryz.func3
    (ChangeSpec.witness_shaped (enc := enc) (C := Tryz.checked) (os := os) (X := fun w _ => laidMetH Tryz.prog Rows.fnDefTextRow.laid w) false (World.laidAll Tryz.prog os Rows.fnDefTextRow.laid) #[V 0 false 0 0 0 ByteArray.empty ByteArray.empty, .bool false] 8 (World.laidAll_os _ _ _)
      (World.shaped_of_ZipB (by kernel_rfl) (by kernel_rfl)) (by kernel_rfl) (by kernel_rfl) (by kernel_rfl)
      (by rw [MakeChecks.laidMetH_plain _ _ _ (by kernel_rfl)]; exact laidMet_laidAll _ (by kernel_rfl) (by kernel_rfl))) ?_
  intro W base args ds gs before hval0 hW x1 x2 x3 x4
  have hL : laidMetH Tryz.prog Rows.fnDefTextRow.laid W := by assumption
  clear x1 x2 x3 x4
  have hval : ∀ (j : Nat) t v, Tryz.f3.params[j]? = some t → args[j]? = some v → Value.okWide Tryz.prog W .any base t v := hval0
  have hW' := hW
  obtain ⟨p, q, hA0, hV, rfl, _, _⟩ := hW
  have hA : DataW.TrodAll enc Tryz.prog W 0 (fun _ => true) true Tryz.f3.params.toList args.toList ds p := hA0
  rw [Tryz.params3] at hA hval
  obtain ⟨v0, vs0, d0, ds0, p0, q0, hargs, rfl, rfl, h0, r0⟩ := trodAll_cons hA
  obtain ⟨v1, vs1, d1, ds1, p1, q1, rfl, rfl, rfl, h1, r1⟩ := trodAll_cons r0
  obtain ⟨rfl, rfl, rfl⟩ := trodAll_nil r1
  obtain rfl : args = #[v0, v1] := by cases args; simp_all
  obtain ⟨rfl, rfl⟩ := trodVars_none hV
  have h0k := h0
  obtain ⟨K, B, I, U, F, S, N, rfl, wI, wU, wF⟩ := open_value (hval 0 24 v0 rfl rfl) h0
  obtain ⟨a1, rfl, rfl, rfl⟩ := open_bool Tryz.underlying4 (hval 1 4 v1 rfl rfl) h1
  clear hA0 hval0
  simp only [List.append_nil] at hW'
  have hlt : ∀ x ∈ p0, x.block < W.heap.size := fun x hx => by simpa using hW'.lt x hx
  have bI := bounds_i64 wI
  have bU := bounds_u64 wU
  have bF := bounds_u64 wF
  refine (Dtc.law K B I U F S N a1 W (tab_of hL) bI.1 bI.2 bU.1 (by omega) bF.1 (by omega)).mono fun e W' ⟨he, hb⟩ => ?_
  subst he
  exact ⟨_, rfl, _, _, _, [], p0 ++ [], [], hW', trodAll_cons_mk (shut_bool Tryz.underlying4 _) trodAll_mk0, trodAll_cons_mk (Below.trod laidOut (by kernel_rfl) (of_decide_eq_true (by kernel_rfl)) h0k hb hlt) (trodAll_cons_mk (shut_bool Tryz.underlying4 _) trodAll_mk0), rfl, hb.frame _, fun h => by cases h⟩

theorem over : Rows.FnDefTextSaid :=
  OpenClaim.holds_of_wide 3 Tryz.f3 rfl rfl rfl rfl rfl rfl rfl ⟨rfl, rfl, rfl, rfl, rfl⟩ rfl rfl rfl rfl rfl (by kernel_rfl) Tryz.func3 (by kernel_rfl)
    (of_decide_eq_true (by kernel_rfl)) (by unfold Func.isWrapper; first | (rw [if_pos (by decide +kernel)]; kernel_rfl) | (rw [if_neg (by decide +kernel)]; exact ⟨rfl, rfl⟩))
    (fun os started H enc _ => lifted os started H enc)

theorem card_holds : Rows.FnDefTextCardSaid :=
  Claim7.holds_tied_plain_at .later [] [.data, .data, .data, .data, .pinned, .pinned] true (true, "3962194b714ff7535ea2cb364b8797701ef6c3eaead2e7bb0e5a2e22889eea6f") true
    over (fun _ h => by cases h) (by kernel_rfl) (fun _ h => by cases h) fnDefText_row_tie rfl ⟨rfl, rfl⟩ (by kernel_rfl) rfl
    (fun f fn hf hfn => by
      obtain rfl : f = 3 := Option.some.inj ((show Tryz.prog.funcNamed "pub-codicil/laws.FnDefText" = some 3 by kernel_rfl).symm.trans hf) |>.symm
      obtain rfl : fn = Tryz.f3 := (Option.some.inj (Tryz.func3.symm.trans hfn)).symm
      exact ⟨by kernel_rfl, fun j t ht => by
        rw [Tryz.params3] at ht
        have hm : t ∈ [24, 4] := by simpa using Array.mem_of_getElem? ht
        have hall : ([24, 4].all fun u => !Tryz.prog.wantsStandIn u) = true := by kernel_rfl
        exact (show Tryz.prog.wantsStandIn t = false by simpa using List.all_eq_true.1 hall t hm)⟩)
    (by kernel_rfl)
end Go.Proofs.YticfdfomlcohpaaGreatDoor.fnDefText
namespace Go.Proofs.YticfdfomlcohpaaGreatDoor
theorem fnDefText_card : Rows.FnDefTextCardSaid := fnDefText.card_holds
#print axioms fnDefText_card
end Go.Proofs.YticfdfomlcohpaaGreatDoor
