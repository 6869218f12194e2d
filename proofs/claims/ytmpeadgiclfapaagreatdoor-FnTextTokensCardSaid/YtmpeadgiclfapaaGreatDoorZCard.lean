/-
  FnTextTokens: for every slice of bytes, the tokens that a text Decoder reads up to the end, or to the first error, are those that the definition tells (where it tells any; at most 4,000 bytes, without the things that the law sets aside); the law returns true and leaves its argument as it was.
  Conditions: none on the input. The card ties the listed package-level variables to the program's text; of them first, acceptRanges, ErrSyntax, ErrRange and ErrUnexpectedEOF are read.
-/
import Derived.Test.YtmpeadgiclfapaaGreatDoorZ51
import Derived.Test.YtmpeadgiclfapaaGreatDoorCards
import Derived.Test.YtmpeadgiclfapaaGreatDoorTie
import Derived.WalkKit
import Derived.ProofKit
import Derived.OpenShut
import Derived.ShutString
import Derived.Lay
import Derived.LaidMore
import Derived.SevenTiedAt
import Derived.Carry
import Derived.Lib.SmallJoins
import Derived.Stop.LaidErr
import Derived.MakeChecks
import Derived.ChangeSlices
namespace Go.Proofs.YtmpeadgiclfapaaGreatDoor.fnTextTokens
open Go.ChangeShapes Go.WideShapes Go.ChangeAt Go.RowKit Go.Proofs.YtmpeadgiclfapaaGreatDoorW.PrintWords Go.Proofs.YtmpeadgiclfapaaGreatDoorW.PrintLast Go.Proofs.YtmpeadgiclfapaaGreatDoorW.PrintMore
theorem own : ownKnob Tryz.prog.godebug = none := by kernel_rfl
theorem laidOut : laidOutB Tryz.prog = true := by kernel_rfl

theorem ajI {w : World} {k : IntKind} {A : Option Addr} {n : Nat} {xs : List Int} (h : kV w k A n xs) : ab.C (ab.int k) w A n xs := by
  refine ⟨h.1, h.2.1, fun aq => ?_⟩
  obtain ⟨cc, e, ai⟩ := h.2.2 aq
  refine ⟨cc, e, fun j p hp => ⟨[.int k p], rfl, rfl, fun i u hu => ?_⟩⟩
  have bq : j < n := by
    have := (List.getElem?_eq_some_iff.1 hp).1
    have := h.1
    omega
  match i, hu with
  | 0, hu =>
    have bx : u = .int k p := by simpa using hu.symm
    have db : xs.getD j 0 = p := by simp [List.getD_eq_getElem?_getD, hp]
    show w.cell? (cc.add (j * 1 + 0)) = some u
    rw [bx, Nat.mul_one, Nat.add_zero, ai j bq, db]
/-- A slice of bytes as it comes in. -/
theorem ajJ {H : Type} {enc : TypeId × Value → H} {w : World} {base : Nat} {spare : Nat → Bool} {held : Bool} (fuel : Nat) (v : Value) (x : DataW H × List MemPlace) (h : DataW.trod enc Tryz.prog w base spare held fuel 22 [v] = some x) :
    ∃ (A : Option Addr) (c : Nat) (B : List Int), v = .slice A B.length c ∧ B.length ≤ c ∧ ab.C (ab.int .u8) w A B.length B ∧ ∀ x ∈ B, 0 ≤ x ∧ x < 256 := by
  rcases open_ints Tryz.underlying22 Tryz.underlying5 (by kernel_rfl) h with ⟨e, _⟩ | ⟨a, len, cap, jd, e, _, an, hm, aG, _, ai, hw⟩
  · injection e with e _
    exact ⟨none, 0, [], e, Nat.le_refl _, ab.Iz _ _, fun x ae => by cases ae⟩
  · injection e with e _
    have MS : len ≤ jd.length := by
      rw [aG]
      split <;> omega
    have aq : (jd.take len).length = len := by rw [List.length_take]; omega
    refine ⟨some a, cap, jd.take len, by rw [aq]; exact e, by rw [aq]; exact an, ?_, fun x ae => ?_⟩
    · rw [aq]
      refine ajI ⟨aq, Nat.le_trans (Nat.le_trans an hm) (by decide), fun _ => ⟨a, rfl, fun j bq => ?_⟩⟩
      rw [ai j (by omega)]
      simp [List.getD_eq_getElem?_getD, bq]
    · have := bounds_u8 (hw x (List.mem_of_mem_take ae))
      omega

set_option maxRecDepth 100000 in
theorem lifted (os : Os) (started : os.Started) (H : Type) (enc : TypeId × Value → H) :
    ReturnsInHanded {} Tryz.checked os 3 .any (fun w args => (Rows.fnTextTokensSpec.pre enc Tryz.prog Tryz.f3 [] false w args ∧ laidMetH Tryz.prog Rows.fnTextTokensRow.laid w) ∧ sizedMet enc Tryz.prog Tryz.f3 (OpenSpec.ofChange Rows.fnTextTokensSpec) false w args)
      (Rows.fnTextTokensSpec.post enc Tryz.prog Tryz.f3 false true false false) := by
  refine returnsInHanded_of_change_and (C := Tryz.checked) (X := fun w _ => laidMetH Tryz.prog Rows.fnTextTokensRow.laid w) (fun _ _ _ ed h => h.of_heap ed) own started (by kernel_rfl) Tryz.func3
    (ChangeSpec.witness_shaped (enc := enc) (C := Tryz.checked) (os := os) (X := fun w _ => laidMetH Tryz.prog Rows.fnTextTokensRow.laid w) false (World.laidAll Tryz.prog os Rows.fnTextTokensRow.laid) #[.slice none 0 0] 8 (World.laidAll_os _ _ _)
      (World.shaped_of_ZipB (by kernel_rfl) (by kernel_rfl)) (by kernel_rfl) (by kernel_rfl) (by kernel_rfl)
      (by rw [MakeChecks.laidMetH_plain _ _ _ (by kernel_rfl)]; exact laidMet_laidAll _ (by kernel_rfl) (by kernel_rfl))) ?_
  intro W base args ds gs before XS fD eg j4 bX dk
  have bD : laidMetH Tryz.prog Rows.fnTextTokensRow.laid W := by assumption
  clear eg j4 bX dk
  have XT : ∀ (j : Nat) t v, Tryz.f3.params[j]? = some t → args[j]? = some v → Value.okWide Tryz.prog W .any base t v := XS
  have Ob := fD
  obtain ⟨p, q, hA0, pj, rfl, _, _⟩ := fD
  have rj : DataW.TrodAll enc Tryz.prog W 0 (fun _ => true) true Tryz.f3.params.toList args.toList ds p := hA0
  rw [Tryz.params3] at rj XT
  obtain ⟨v0, akH, d0, akI, p0, a1, EG, rfl, rfl, h0, gd⟩ := trodAll_cons rj
  obtain ⟨rfl, rfl, rfl⟩ := trodAll_nil gd
  obtain rfl : args = #[v0] := by cases args; simp_all
  obtain ⟨rfl, rfl⟩ := trodVars_none pj
  have ajK := h0
  obtain ⟨ao, bn, c0, rfl⟩ := okWide_slice Tryz.underlying22 (XT 0 22 v0 rfl rfl)
  clear hA0 XS
  simp only [List.append_nil] at Ob
  have fo : ∀ x ∈ p0, x.block < W.heap.size := fun x ae => by simpa using Ob.lt x (by simp [ae])
  obtain ⟨fuel, aA⟩ := h0
  obtain ⟨A, c, B, e, ai, hC, bG⟩ := ajJ fuel (.slice ao bn c0) _ aA
  injection e with bx db fO
  subst bx db fO
  obtain ⟨cV, cG, bN⟩ := XR.env bD
  refine (wP.law hC ai bG cV cG bN).mono fun e aQ ⟨he, U⟩ => ?_
  subst he
  exact ⟨_, rfl, _, _, _, [], p0 ++ [], [], Ob, trodAll_cons_mk (shut_bool Tryz.underlying4 _) trodAll_mk0, trodAll_cons_mk (Below.trod laidOut (by kernel_rfl) (of_decide_eq_true (by kernel_rfl)) ajK U fo) trodAll_mk0, rfl, U.frame _, fun h => by cases h⟩

theorem over : Rows.FnTextTokensSaid :=
  OpenClaim.holds_of_wide 3 Tryz.f3 rfl rfl rfl rfl rfl rfl rfl ⟨rfl, rfl, rfl, rfl, rfl⟩ rfl rfl rfl rfl rfl (by kernel_rfl) Tryz.func3 (by kernel_rfl)
    (of_decide_eq_true (by kernel_rfl)) (by unfold Func.isWrapper; first | (rw [if_pos (by decide +kernel)]; kernel_rfl) | (rw [if_neg (by decide +kernel)]; exact ⟨rfl, rfl⟩))
    (fun os started H enc _ => lifted os started H enc)

theorem ajL : Rows.FnTextTokensCardSaid :=
  Claim7.holds_tied_plain_at .later [] [.data, .data, .data, .data, .sentinel, .sentinel, .sentinel, .pinned] true (true, "28615a2db44e7d003b43793d1be942ca3715fdf9ad2d56add06fb3e195704daa") true
    over (fun _ h => by cases h) (by kernel_rfl) (fun _ h => by cases h) fnTextTokens_row_tie rfl ⟨rfl, rfl⟩ (by kernel_rfl) rfl
    (fun f fn aA L9 => by
      obtain rfl : f = 3 := Option.some.inj ((show Tryz.prog.funcNamed "pub-codicil/laws.FnTextTokens" = some 3 by kernel_rfl).symm.trans aA) |>.symm
      obtain rfl : fn = Tryz.f3 := (Option.some.inj (Tryz.func3.symm.trans L9)).symm
      exact ⟨by kernel_rfl, fun j t aU => by
        rw [Tryz.params3] at aU
        have hm : t ∈ [22] := by simpa using Array.mem_of_getElem? aU
        have jW : ([22].all fun u => !Tryz.prog.wantsStandIn u) = true := by kernel_rfl
        exact (show Tryz.prog.wantsStandIn t = false by simpa using List.all_eq_true.1 jW t hm)⟩)
    (by kernel_rfl)
end Go.Proofs.YtmpeadgiclfapaaGreatDoor.fnTextTokens
namespace Go.Proofs.YtmpeadgiclfapaaGreatDoor
theorem fnTextTokens_card : Rows.FnTextTokensCardSaid := fnTextTokens.ajL
#print axioms fnTextTokens_card
end Go.Proofs.YtmpeadgiclfapaaGreatDoor
