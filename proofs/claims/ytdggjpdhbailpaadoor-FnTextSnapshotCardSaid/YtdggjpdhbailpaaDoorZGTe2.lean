/- TextEncode without an indent, not as ASCII: what it returns is the fold over the calls. Conditions: as in St; at most 2000 calls. -/
import Derived.Test.YtdggjpdhbailpaaDoorZGSt
import Derived.Deep.LoopGhost
namespace Go.Proofs.YtdggjpdhbailpaaDoor.Te2
set_option linter.unusedSimpArgs false
set_option linter.unusedVariables false
open Go.RowKit Go.Proofs.YtdggjpdhbailpaaDoorW.PrintWords Go.Proofs.YtdggjpdhbailpaaDoorW.PrintLast Go.Proofs.YtdggjpdhbailpaaDoorW.PrintMore Go.Proofs.YtdggjpdhbailpaaDoor.As1 Go.Proofs.YtdggjpdhbailpaaDoor.En0 Go.Proofs.YtdggjpdhbailpaaDoor.Bl Go.Proofs.YtdggjpdhbailpaaDoor.Pn2 Go.Proofs.YtdggjpdhbailpaaDoor.Wr Go.Proofs.YtdggjpdhbailpaaDoor.Td Go.Proofs.YtdggjpdhbailpaaDoor.Td2 Go.Proofs.YtdggjpdhbailpaaDoor.Ok Go.Proofs.YtdggjpdhbailpaaDoor.St Go.Proofs.YtdggjpdhbailpaaDoor.Ne Go.Proofs.YtdggjpdhbailpaaDoor.Lf Go.Proofs.YtdggjpdhbailpaaDoor.PFnTextAscii

theorem at_lower {γ_ : Gho} {η_ : Hel} {w : World} {base base' b : Nat} {I : ByteArray} {d0 d1 : Int} {asc : Bool} {last : Int} {vI vO : Value} {ind out : List Int} (h : At w base' b I d0 d1 asc last vI vO ind out) (hb : base ≤ base') : At w base b I d0 d1 asc last vI vO ind out :=
  ⟨h.blk, Nat.le_trans hb h.le, Kd.R_lower h.hI hb, Kd.G_lower h.hO hb, h.hN, h.hS⟩

theorem bytes (γ_ : Gho) (η_ : Hel) (w : World) (base b : Nat) (I : ByteArray) (d0 d1 : Int) (asc : Bool) (last : Int) (vI vO : Value) (ind out : List Int) (h : At w base b I d0 d1 asc last vI vO ind out) :
    Calls Tryd.prog 24 #[.pointer (some ⟨b, 0, none⟩)] w fun e w' => e = .returned vO ∧ w' = w := by
  have c2 := h.c2
  clear h
  go_enter Tryd.func24, Tryd.ntmps24
  go_wp2
  go_ret
  exact ⟨rfl, rfl⟩

theorem copy (A : Option Addr) (n c : Nat) (l : List Int) (w : World) (hr : Kd.C (Kd.int .u8) w A n l) (hc : n ≤ c) (hl : l.length < 140737488355328) :
    Calls Tryd.prog 23 #[.slice A n c] w fun e w' => ∃ v : Value, e = .returned v ∧ Kd.R (Kd.int .u8) 5 w' w.heap.size (fun _ => True) v l ∧ Below w.heap.size w w' := by
  obtain rfl : l.length = n := hr.1
  exact impl_copied.calls A c l l w hr hc (by simp [impl_copied.f, hl])

/-- A new encoder. -/
theorem st0 {w0 w w1 : World} (hB : Below w0.heap.size w0 w) (hA : @At g0 h0 w1 w.heap.size (w.heap.size + 1) ⟨#[]⟩ 123 125 false 0 (.slice none 0 0) (.slice none 0 0) [] []) (hB1 : Below w.heap.size w w1) : St g0 h0 w0 w1 (w.heap.size + 1) (0, []) 0 :=
  ⟨below_then hB hB.size hB1, ⟨_, _, at_lower hA hB.size⟩, .inl rfl, by simp⟩
/-- The bytes of the encoder. -/
theorem st_out {γ_ : Gho} {η_ : Hel} {w0 w : World} {b : Nat} {s : Int × List Int} {i : Nat} (h : St γ_ η_ w0 w b s i) : ∃ (A : Option Addr) (c : Nat), s.2.length ≤ c ∧ Kd.C (Kd.int .u8) w A s.2.length s.2 ∧ ∀ W, W = w → Calls Tryd.prog 24 #[.pointer (some ⟨b, 0, none⟩)] W fun e w' => e = .returned (.slice A s.2.length c) ∧ w' = w := by
  obtain ⟨h1, ⟨vI, vO, hA⟩, -⟩ := h
  obtain ⟨A, c, rfl, hle, hC⟩ := Kd.G_reads hA.hO
  refine ⟨A, c, hle, hC, ?_⟩
  rintro W rfl
  exact bytes _ _ _ _ _ _ _ _ _ _ _ _ _ _ hA

set_option maxHeartbeats 1000000 in
set_option maxRecDepth 100000 in
theorem enc (T : World → Prop) (R : TOp → List Int) (hd : ∀ o, Td2.Good o → Does T o (R o)) (A : Option Addr) (c : Nat) (ops : List TOp) (w0 : World) (hT : T w0) (hr : Kd.C kOp w0 A ops.length ops) (hc : ops.length ≤ c) (hn : ops.length ≤ 2000) (hg : ∀ o ∈ ops, Td2.Good o) :
    Calls Tryd.prog 11 #[.slice A ops.length c, .string ⟨#[]⟩, .bool false, .bool false] w0 fun e w' => ∃ v : Value, e = .returned (.tuple #[v, .bool true]) ∧ Kd.R (Kd.int .u8) 5 w' w0.heap.size (fun _ => True) v (run R (0, []) ops).2 ∧ (run R (0, []) ops).2.length ≤ 240000000 ∧ Below w0.heap.size w0 w' := by
  obtain ⟨F, hF⟩ : ∃ F, F = (run R (0, []) ops).2 := ⟨_, rfl⟩
  rw [← hF]
  have HF := Aside0.mk hF
  clear hF
  have HR := Aside0.mk hr
  have HC := Aside0.mk hc
  have HP := Aside0.mk (And.intro hn (And.intro hg (And.intro hd hT)))
  have hu71 := Tryd.underlying71
  clear hr hc hn hg hd hT
  have HNew := Aside0.mk new
  go_enter Tryd.func11, Tryd.ntmps11
  go_wp2_with (go_at_call 21; go_must (refine (HNew.out _).mono ?_; rintro e1 w1 ⟨rfl, hA1, hB1⟩; have HA1 := Aside0.mk hA1; have HB1 := Aside0.mk hB1; clear hA1 hB1))
  have HS0 : Aside0 (St g0 h0 w0 w1 (w0.heap.size + 1 + 1) (0, []) 0) := Aside0.mk (by
    have h := st0 (below_alloc (Below.refl _ _) _) HA1.out HB1.out
    rwa [show (w0.alloc _).heap.size = w0.heap.size + 1 from by simp] at h)
  clear HA1 HB1 HNew
  go_loopg [28] ops.length (fun k v28 w' => ∃ i : Nat, v28 = .int .i64 (i : Int) ∧ Aside0 (i + k = ops.length) ∧ Aside0 (St g0 h0 w0 w' (w0.heap.size + 1 + 1) (run R (0, []) (ops.take i)) i))
  case atStart => exact ⟨0, rfl, ⟨by omega⟩, HS0⟩
  case round =>
    clear HS0
    obtain ⟨i, rfl, HK, HS⟩ := hrel
    by_cases hi : i < ops.length
    · obtain ⟨ad, e, x0, x1, x2, x3, x4, x5, x6⟩ := at_op HR.out (i : Int) (by omega) (by omega)
      cases e
      rw [Int.toNat_natCast] at x0 x1 x2 x3 x4 x5 x6
      have hB := HS.out.1
      replace x0 := (hB.cell (World.block_lt_of_cell? w0 _ x0)).trans x0
      replace x1 := (hB.cell (World.block_lt_of_cell? w0 _ x1)).trans x1
      replace x2 := (hB.cell (World.block_lt_of_cell? w0 _ x2)).trans x2
      replace x3 := (hB.cell (World.block_lt_of_cell? w0 _ x3)).trans x3
      replace x4 := (hB.cell (World.block_lt_of_cell? w0 _ x4)).trans x4
      replace x5 := (hB.cell (World.block_lt_of_cell? w0 _ x5)).trans x5
      replace x6 := (hB.cell (World.block_lt_of_cell? w0 _ x6)).trans x6
      have hgo : Td2.Good (rdOp ops (i : Int)) := by
        refine HP.out.2.1 _ ?_
        simp [rdOp, List.getD_eq_getElem?_getD, hi]
      have HTD : Aside0 (∀ W, Below wr.heap.size wr W → Calls Tryd.prog 22 #[.pointer (some ⟨w0.heap.size + 1 + 1, 0, none⟩), opV (rdOp ops (i : Int))] W fun e w' => e = .returned (.tuple #[]) ∧ St g0 h0 w0 w' (w0.heap.size + 1 + 1) (run R (0, []) (ops.take (i + 1))) (i + 1)) := Aside0.mk (by
        intro W hW
        rw [run_snoc R _ ops i hi]
        exact Go.Proofs.YtdggjpdhbailpaaDoor.St.step (HP.out.2.2.1 _ hgo) HP.out.2.2.2 (HS.out.below hW) (by have := HP.out.1; omega))
      have HI2 := Aside0.mk hi
      have c0 : decide ((i : Int) < (ops.length : Int)) = true := decide_eq_true (by omega)
      have c1 := eq_true (show (0 : Int) ≤ (i : Int) by omega)
      have c2 := eq_true (show (i : Int) < (ops.length : Int) by omega)
      have c3 : IntKind.i64.wrap ((i : Int) + 1) = ((i + 1 : Nat) : Int) := by have := HP.out.1; rw [IntKind.wrap_i64]; omega
      have c4 : wrap64 ((i : Int) + 1) = ((i + 1 : Nat) : Int) := by have := HP.out.1; unfold wrap64; omega
      clear hB hi hgo
      go_wp2_with (go_at_call 22; go_must (refine (HTD.out _ (below_alloc (Below.refl _ _) _)).mono ?_; rintro e2 w2 ⟨rfl, hS2⟩; have HS2 := Aside0.mk hS2; clear hS2))
      go_roundg (ops.length - (i + 1))
      case measure => have := HK.out; have := HI2.out; omega
      case rel => exact ⟨i + 1, by first | rfl | (simp; done) | (simp [c4]; done), ⟨by have := HI2.out; omega⟩, HS2⟩
    · have hin : i = ops.length := by have := HK.out; omega
      subst hin
      have c0 : decide ((ops.length : Int) < (ops.length : Int)) = false := decide_eq_false (by omega)
      have hS := HS.out
      rw [List.take_length] at hS
      have HB := Aside0.mk hS.1
      have hl2 := hS.2.2.2
      obtain ⟨AO, cO, hle, hC, hby⟩ := st_out hS
      rw [← HF.out] at hl2 hle hC hby
      have HLE := Aside0.mk hl2
      have HBY := Aside0.mk hby
      have HC2 := Aside0.mk (And.intro hC hle)
      clear hS hC hle hby hi HS HF hl2
      go_wp2_with (first
        | (go_at_call 24; go_must (refine (HBY.out _ rfl).mono ?_; rintro e2 w2 ⟨rfl, rfl⟩))
        | (go_at_call 23; go_must (refine (copy AO F.length cO F _ HC2.out.1 HC2.out.2 (by have := HLE.out; have := HP.out.1; omega)).mono ?_; rintro e3 w3 ⟨v, rfl, hR, hB3⟩; have HR3 := Aside0.mk hR; have HB3 := Aside0.mk hB3; clear hR hB3)))
      go_ret2
      exact ⟨v, rfl, Kd.R_lower HR3.out HB.out.size, (by have := HLE.out; have := HP.out.1; omega), below_then HB.out HB.out.size HB3.out⟩

end Go.Proofs.YtdggjpdhbailpaaDoor.Te2
