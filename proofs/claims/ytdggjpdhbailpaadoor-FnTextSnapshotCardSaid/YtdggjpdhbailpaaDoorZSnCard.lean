/-
  FnTextSnapshot: for every two lists of items and every place in the first, what TextSnapshot gives (the first calls, Snapshot, other calls, Reset, the rest of the calls) is what TextEncode gives for the first list, which is not empty if and only if the list is not; the law returns true and leaves its arguments as they were.
  Conditions: none on the input. The card ties the listed package-level tables to the program's text; of them pow10Tab, uint64pow10, deBruijn64tab, first and acceptRanges are read.
-/
import Derived.Test.YtdggjpdhbailpaaDoorZGCa0
import Derived.Test.YtdggjpdhbailpaaDoorZGAp
import Derived.Test.YtdggjpdhbailpaaDoorZGLt
import Derived.Test.YtdggjpdhbailpaaDoorCards
import Derived.Test.YtdggjpdhbailpaaDoorTie
import Derived.WalkKit
import Derived.ProofKit
import Derived.OpenShut
import Derived.ShutString
import Derived.Lay
import Derived.LaidMore
import Derived.SevenTiedAt
import Derived.Carry
import Derived.Lib.SmallJoins
import Derived.Stop.LaidErr
import Derived.MakeChecks

namespace Go.Proofs.YtdggjpdhbailpaaDoor.fnTextSnapshot
open Go.ChangeShapes Go.WideShapes Go.ChangeAt Go.RowKit
open Go.ChangeMaps (open_string shut_string)
theorem own : ownKnob Tryd.prog.godebug = none := by kernel_rfl
theorem laidOut : laidOutB Tryd.prog = true := by kernel_rfl

set_option maxRecDepth 100000 in
theorem lifted (os : Os) (started : os.Started) (H : Type) (enc : TypeId × Value → H) :
    ReturnsInHanded {} Tryd.checked os 5 .any (fun w args => (Rows.fnTextSnapshotSpec.pre enc Tryd.prog Tryd.f5 [] false w args ∧ laidMetH Tryd.prog Rows.fnTextSnapshotRow.laid w) ∧ sizedMet enc Tryd.prog Tryd.f5 (OpenSpec.ofChange Rows.fnTextSnapshotSpec) false w args)
      (Rows.fnTextSnapshotSpec.post enc Tryd.prog Tryd.f5 false true false false) := by
  refine returnsInHanded_of_change_and (C := Tryd.checked) (X := fun w _ => laidMetH Tryd.prog Rows.fnTextSnapshotRow.laid w) (fun _ _ _ hh h => h.of_heap hh) own started (by kernel_rfl) Tryd.func5
    (ChangeSpec.witness_shaped (enc := enc) (C := Tryd.checked) (os := os) (X := fun w _ => laidMetH Tryd.prog Rows.fnTextSnapshotRow.laid w) false (World.laidAll Tryd.prog os Rows.fnTextSnapshotRow.laid) #[.slice none 0 0, .slice none 0 0, .int .i64 0] 8 (World.laidAll_os _ _ _)
      (World.shaped_of_ZipB (by kernel_rfl) (by kernel_rfl)) (by kernel_rfl) (by kernel_rfl) (by kernel_rfl)
      (by rw [MakeChecks.laidMetH_plain _ _ _ (by kernel_rfl)]; exact laidMet_laidAll _ (by kernel_rfl) (by kernel_rfl))) ?_
  intro W base args ds gs before hval0 hW x1 x2 x3 x4
  have hL : laidMetH Tryd.prog Rows.fnTextSnapshotRow.laid W := by assumption
  clear x1 x2 x3 x4
  have hval : ∀ (j : Nat) t v, Tryd.f5.params[j]? = some t → args[j]? = some v → Value.okWide Tryd.prog W .any base t v := hval0
  have hW' := hW
  obtain ⟨p, q, hA0, hV, rfl, _, _⟩ := hW
  have hA : DataW.TrodAll enc Tryd.prog W 0 (fun _ => true) true Tryd.f5.params.toList args.toList ds p := hA0
  rw [Tryd.params5] at hA hval
  obtain ⟨v0, vs0, d0, ds0, p0, q0, hargs, rfl, rfl, h0, r0⟩ := trodAll_cons hA
  obtain ⟨v1, vs1, d1, ds1, p1, q1, rfl, rfl, rfl, h1, r1⟩ := trodAll_cons r0
  obtain ⟨v2, vs2, d2, ds2, p2, q2, rfl, rfl, rfl, h2, r2⟩ := trodAll_cons r1
  obtain ⟨rfl, rfl, rfl⟩ := trodAll_nil r2
  obtain rfl : args = #[v0, v1, v2] := by cases args; simp_all
  obtain ⟨rfl, rfl⟩ := trodVars_none hV
  have h0k := h0
  have h1k := h1
  obtain ⟨B, rfl, rfl, rfl, wB⟩ := open_int Tryd.underlying3 (hval 2 3 v2 rfl rfl) h2
  obtain ⟨A0, n0, c0, rfl⟩ := okWide_slice Tryd.underlying31 (hval 0 31 v0 rfl rfl)
  obtain ⟨A1, n1, c1, rfl⟩ := okWide_slice Tryd.underlying31 (hval 1 31 v1 rfl rfl)
  clear hA0 hval0
  simp only [List.append_nil] at hW'
  have hlt : ∀ x ∈ p0, x.block < W.heap.size := fun x hx => by simpa using hW'.lt x (by simp [hx])
  have hlt1 : ∀ x ∈ p1, x.block < W.heap.size := fun x hx => by simpa using hW'.lt x (by simp [hx])
  obtain ⟨fuel, hf⟩ := h0
  obtain ⟨A, c, l, e, hc, hR, hg⟩ := Ca0.items fuel (.slice A0 n0 c0) _ hf
  injection e with e1 e2 e3
  subst e1 e2 e3
  obtain ⟨fuel1, hf1⟩ := h1
  obtain ⟨A2, c2, l2, e, hc2, hR2, hg2⟩ := Ca0.items fuel1 (.slice A1 n1 c1) _ hf1
  injection e with e1 e2 e3
  subst e1 e2 e3
  obtain ⟨R, hd⟩ := Td2.does Ap.Tabs Ap.apps
  refine (La.law Ap.Tabs (fun w w' h hb => h.on hb) R hd l A0 c0 l2 A1 c1 B W hR hc hR2 hc2 hg hg2 (Lt.tabs hL)).mono fun e W' ⟨he, hb⟩ => ?_
  subst he
  exact ⟨_, rfl, _, _, _, [], p0 ++ (p1 ++ []), [], hW', trodAll_cons_mk (shut_bool Tryd.underlying4 _) trodAll_mk0, trodAll_cons_mk (Below.trod laidOut (by kernel_rfl) (of_decide_eq_true (by kernel_rfl)) h0k hb hlt) (trodAll_cons_mk (Below.trod laidOut (by kernel_rfl) (of_decide_eq_true (by kernel_rfl)) h1k hb hlt1) (trodAll_cons_mk (shut_int Tryd.underlying3 wB) trodAll_mk0)), rfl, hb.frame _, fun h => by cases h⟩

theorem over : Rows.FnTextSnapshotSaid :=
  OpenClaim.holds_of_wide 5 Tryd.f5 rfl rfl rfl rfl rfl rfl rfl ⟨rfl, rfl, rfl, rfl, rfl⟩ rfl rfl rfl rfl rfl (by kernel_rfl) Tryd.func5 (by kernel_rfl)
    (of_decide_eq_true (by kernel_rfl)) (by unfold Func.isWrapper; first | (rw [if_pos (by decide +kernel)]; kernel_rfl) | (rw [if_neg (by decide +kernel)]; exact ⟨rfl, rfl⟩))
    (fun os started H enc _ => lifted os started H enc)

theorem card_holds : Rows.FnTextSnapshotCardSaid :=
  Claim7.holds_tied_plain_at .later [] [.data, .data, .data, .data, .data, .pinned, .pinned, .pinned] true (true, "7bbfdbc66b74f5a3e235835eefd0a4b083f25e0a6b2cc4995ca1cd922cc6d51e") false
    over (fun _ h => by cases h) (by kernel_rfl) (fun _ h => by cases h) fnTextSnapshot_row_tie rfl ⟨rfl, rfl⟩ (by kernel_rfl) rfl
    (fun f fn hf hfn => by
      obtain rfl : f = 5 := Option.some.inj ((show Tryd.prog.funcNamed "pub-codicil/laws.FnTextSnapshot" = some 5 by kernel_rfl).symm.trans hf) |>.symm
      obtain rfl : fn = Tryd.f5 := (Option.some.inj (Tryd.func5.symm.trans hfn)).symm
      exact ⟨by kernel_rfl, fun j t ht => by
        rw [Tryd.params5] at ht
        have hm : t ∈ [31, 31, 3] := by simpa using Array.mem_of_getElem? ht
        have hall : ([31, 31, 3].all fun u => !Tryd.prog.wantsStandIn u) = true := by kernel_rfl
        exact (show Tryd.prog.wantsStandIn t = false by simpa using List.all_eq_true.1 hall t hm)⟩)
    (by kernel_rfl)
end Go.Proofs.YtdggjpdhbailpaaDoor.fnTextSnapshot
namespace Go.Proofs.YtdggjpdhbailpaaDoor
theorem fnTextSnapshot_card : Rows.FnTextSnapshotCardSaid := fnTextSnapshot.card_holds
#print axioms fnTextSnapshot_card
end Go.Proofs.YtdggjpdhbailpaaDoor
