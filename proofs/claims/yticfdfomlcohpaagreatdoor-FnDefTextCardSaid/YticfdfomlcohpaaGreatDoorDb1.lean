/- The walks of the small functions round a default value of bytes: ValueOfBytes, Bytes, given, Marshal, DefMarshal. -/
import Derived.Test.YticfdfomlcohpaaGreatDoorMb
import Derived.WalkSpells
import Derived.WalkLawsBesides
import Derived.Outline
import Derived.Deep.RegionWith
import Derived.Deep.QuietTactic
import Derived.BigQuiet
import Derived.Deep.DeepMust
namespace Go.Proofs.YticfdfomlcohpaaGreatDoor.Db
open Go.RowKit Go.Proofs.YticfdfomlcohpaaGreatDoorW.PrintWords Go.Proofs.YticfdfomlcohpaaGreatDoorW.PrintLast Go.Proofs.YticfdfomlcohpaaGreatDoorW.PrintMore

theorem bcell {W w1 : World} (hb : Below W.heap.size W w1) : (∀ b o, b < W.heap.size → w1.cell? ⟨b, o, none⟩ = W.cell? ⟨b, o, none⟩) ∧ (∀ b o, b < W.heap.size → w1.frozen? ⟨b, o, none⟩ = W.frozen? ⟨b, o, none⟩) :=
  ⟨fun b o h => hb.cell (p := ⟨b, o, none⟩) h, fun b o h => hb.frozen (p := ⟨b, o, none⟩) h⟩

theorem C_int_of {w : World} {k : IntKind} {A : Option Addr} {n : Nat} {xs : List Int} (h : ReadsInt w k A n xs) : Kd.C (Kd.int k) w A n xs := by
  refine ⟨h.1, h.2.1, fun hn => ?_⟩
  obtain ⟨ad, e, hc⟩ := h.2.2 hn
  refine ⟨ad, e, fun j p hp => ⟨[.int k p], rfl, rfl, fun i u hu => ?_⟩⟩
  have hj : j < n := by
    have := (List.getElem?_eq_some_iff.1 hp).1
    have := h.1
    omega
  match i, hu with
  | 0, hu =>
    have e1 : u = .int k p := by simpa using hu.symm
    have e2 : xs.getD j 0 = p := by simp [List.getD_eq_getElem?_getD, hp]
    show w.cell? (ad.add (j * 1 + 0)) = some u
    rw [e1, Nat.mul_one, Nat.add_zero, hc j hj, e2]

theorem C_far {k : IntKind} {w : World} {g n : Nat} {xs : List Int} (h : Kd.C (Kd.int k) w (some ⟨g, 0, none⟩) n xs) {p : Addr} (hp : g ≠ p.block) (u : Value) : Kd.C (Kd.int k) (w.setCell p u) (some ⟨g, 0, none⟩) n xs := by
  refine ⟨h.1, h.2.1, fun hn => ?_⟩
  obtain ⟨ad, e, hc⟩ := h.2.2 hn
  cases e
  refine ⟨_, rfl, fun j q hq => ?_⟩
  obtain ⟨c, h1, h2, h3⟩ := hc j q hq
  refine ⟨c, h1, h2, fun i v hv => ?_⟩
  rw [← h3 i v hv, add_plain]
  exact World.cell?_of_block (w := w) (Below.heap_setCell w p u _ hp)

theorem vobin (A : Option Addr) (n c : Nat) (w : World) :
    Calls Tryz.prog 71 #[.slice A n c] w fun e w' =>
      e = .returned (.agg #[.int .i64 9, .int .u64 0, .string ⟨#[]⟩, .slice A n c]) ∧ Below w.heap.size w w' := by
  go_enter Tryz.func71, Tryz.ntmps71
  go_wp2
  exact bodyPost_ret (v := .agg #[.int .i64 9, .int .u64 0, .string ⟨#[]⟩, .slice A n c]) (by simp [results, Tryz.results71, go_sem]) rfl ⟨rfl, (Below.refl _ _).alloc (Nat.le_refl _) _⟩

theorem vob (A : Option Addr) (n c : Nat) (hnc : n ≤ c) (w : World) :
    Calls Tryz.prog 53 #[.slice A n c] w fun e w' =>
      e = .returned (.agg #[.int .i64 9, .int .u64 0, .string ⟨#[]⟩, .slice A n n]) ∧ Below w.heap.size w w' := by
  go_enter Tryz.func53, Tryz.ntmps53
  go_wp2_with (go_at_call 71; refine (vobin _ _ _ _).mono ?_; rintro e w1 ⟨rfl, hb⟩; obtain ⟨hc1, hf1⟩ := bcell hb; have hz1 := hb.size; simp at hz1)
  refine bodyPost_ret (v := .agg #[.int .i64 9, .int .u64 0, .string ⟨#[]⟩, .slice A n n]) (by simp [results, Tryz.results53, go_sem, hc1]) rfl ⟨rfl, ?_⟩
  exact ((((((Below.refl _ _).alloc (Nat.le_refl _) _).trans (hb.mono (by simp))).setCell (Nat.le_refl _) _).setCell (Nat.le_refl _) _).setCell (Nat.le_refl _) _).setCell (Nat.le_refl _) _

theorem getb (A : Option Addr) (n c : Nat) (w : World) :
    Calls Tryz.prog 69 #[.agg #[.int .i64 9, .int .u64 0, .string ⟨#[]⟩, .slice A n c]] w fun e w' =>
      e = .returned (.slice A n c) ∧ Below w.heap.size w w' := by
  go_enter Tryz.func69, Tryz.ntmps69
  go_wp2
  go_ret
  exact ⟨rfl, (Below.refl _ _).alloc (Nat.le_refl _) _⟩

theorem vbytes (A : Option Addr) (n c : Nat) (w : World) :
    Calls Tryz.prog 42 #[.agg #[.int .i64 9, .int .u64 0, .string ⟨#[]⟩, .slice A n c]] w fun e w' =>
      e = .returned (.slice A n c) ∧ Below w.heap.size w w' := by
  go_enter Tryz.func42, Tryz.ntmps42
  go_wp2_with (go_at_call 69; refine (getb _ _ _ _).mono ?_; rintro e w1 ⟨rfl, hb⟩)
  go_ret
  exact ⟨rfl, ((Below.refl _ _).alloc (Nat.le_refl _) _).trans (hb.mono (by simp))⟩

theorem given12 (b : ByteArray) (hb0 : b.size ≤ 9223372036854775807) (i : Int) (w : World) :
    Calls Tryz.prog 24 #[.agg #[.int .i64 12, .bool false, .int .i64 i, .int .u64 0, .int .u64 0, .string b, .string ⟨#[]⟩]] w fun e w' =>
      ∃ A, e = .returned (.agg #[.int .i64 9, .int .u64 0, .string ⟨#[]⟩, .slice A b.size b.size]) ∧ Kd.C (Kd.int .u8) w' A (bytesOf b).length (bytesOf b) ∧ Below w.heap.size w w' := by
  have kb := fun W => print_bytes (P := Tryz.prog) 9 34 5 Tryz.underlying9 Tryz.underlying34 Tryz.underlying5 b W
  go_enter Tryz.func24, Tryz.ntmps24
  go_wp2_with (go_at_call 53; go_must (refine (vob _ _ _ (grownCap_ge _ _ _ _) _).mono ?_; rintro e w1 ⟨rfl, hb⟩; have hb2 := (bytes_below (Below.refl _ _) (Nat.le_refl _) _ _).trans (hb.mono (by rw [Lib.bytesWorld_size]; omega)); obtain ⟨hc1, hf1⟩ := bcell hb2; have hz1 := hb2.size; simp at hz1; have hC := (Kd.C_below (d := Kd.int .u8) (C_int_of (bytes_reads _ _ _ hb0)) hb)))
  have hC2 : Kd.C (Kd.int .u8) w1 (some ⟨w.heap.size + 1 + 1, 0, none⟩) (bytesOf b).length (bytesOf b) := by rw [bytesOf_length]; simpa using hC
  have hB : Below w.heap.size w w1 := (((Below.refl _ _).alloc (Nat.le_refl _) _).alloc (by simp) _).trans (hb2.mono (by simp; omega))
  refine bodyPost_ret (v := .agg #[.int .i64 9, .int .u64 0, .string ⟨#[]⟩, .slice (some ⟨w.heap.size + 1 + 1, 0, none⟩) b.size b.size]) (by simp [results, Tryz.results24, go_sem, hc1]) rfl ⟨_, rfl, ?_, ?_⟩
  · exact C_far (p := ⟨w.heap.size + 1, 3, none⟩) (C_far (p := ⟨w.heap.size + 1, 2, none⟩) (C_far (p := ⟨w.heap.size + 1, 1, none⟩) (C_far (p := ⟨w.heap.size + 1, 0, none⟩) hC2 (by simp) _) (by simp) _) (by simp) _) (by simp) _
  · exact (((hB.setCell (by simp) _).setCell (by simp) _).setCell (by simp) _).setCell (by simp) _

theorem byn_nil (x : Int) (w : World) :
    Calls Tryz.prog 22 #[.slice none 0 0, .int .i32 x] w fun e w' => e = .returned .nilIface ∧ w' = w := by
  go_enter Tryz.func22, Tryz.ntmps22
  go_wp2
  refine wp_loop_rounds 1 ?_
  rw [rounds_succ]
  go_wp2
  go_ret
  exact ⟨rfl, rfl⟩

theorem enum_nil (w : World) :
    Calls Tryz.prog 21 #[.slice none 0 0, .slice none 0 0] w fun e w' => e = .returned (.slice none 0 0) ∧ w' = w := by
  go_enter Tryz.func21, Tryz.ntmps21
  go_wp2
  refine wp_loop_rounds 1 ?_
  rw [rounds_succ]
  go_wp2
  go_ret
  exact ⟨rfl, rfl⟩

theorem marshal12 (A : Option Addr) (n c : Nat) (ev : Value) (f : Int) (r : ByteArray) (l : List Int) (k : Nat) (w : World) (hl : l.length = n) (hnc : n ≤ c) (hC : Kd.C (Kd.int .u8) w A n l)
    (hf : Mb.defval_marshalBytes.f k l = some (r, true)) :
    Calls Tryz.prog 23 #[.agg #[.int .i64 9, .int .u64 0, .string ⟨#[]⟩, .slice A n c], ev, .int .i8 12, .int .i64 f] w fun e w' =>
      e = .returned (.tuple #[.string r, .nilIface]) ∧ Below w.heap.size w w' := by
  subst hl
  go_enter Tryz.func23, Tryz.ntmps23
  go_wp2_with (first
    | (go_at_call 42; go_must (refine (vbytes _ _ _ _).mono ?_; rintro e w1 ⟨rfl, hb1⟩))
    | (go_at_call 41; go_must (refine (Mb.defval_marshalBytes.calls k _ _ l r true _ (Kd.C_below (Kd.C_below hC ((Below.refl _ _).alloc (Nat.le_refl _) _)) hb1) hnc hf).mono ?_; rintro e w2 ⟨rfl, hb2⟩)))
  go_ret2
  exact ⟨rfl, (((Below.refl _ _).alloc (Nat.le_refl _) _).trans (hb1.mono (by simp))).trans (hb2.mono (by have := hb1.size; simp at this; omega))⟩

set_option maxHeartbeats 1000000 in
theorem defmarshal12 (b : ByteArray) (hb0 : b.size ≤ 9223372036854775807) (f : Int) (r : ByteArray) (k : Nat) (w : World)
    (hf : Mb.defval_marshalBytes.f k (bytesOf b) = some (r, true)) :
    Calls Tryz.prog 9 #[.agg #[.int .i64 12, .bool false, .int .i64 0, .int .u64 0, .int .u64 0, .string b, .string ⟨#[]⟩], .int .i64 f, .slice none 0 0, .slice none 0 0] w fun e w' =>
      e = .returned (.tuple #[.string r, .bool true]) ∧ Below w.heap.size w w' := by
  have HF := Aside0.mk hf
  clear hf
  go_enter Tryz.func9, Tryz.ntmps9
  go_wp2_with fail
  go_quiet ((first | (go_at_call 21; exact Calls.quiet_of_same (enum_nil _)) | (go_at_call 22; exact Calls.quiet_of_same (byn_nil _ _))))
  go_wp2_with fail
  go_region_with (first
    | (go_at_call 24; go_must (refine (given12 b hb0 0 _).mono ?_; rintro e w1 ⟨A, rfl, hC, hb⟩; obtain ⟨hc1, _⟩ := bcell hb; have hbW := (pw_below_drewN (below_alloc (Below.refl _ _) _) _).trans (hb.mono (by simp))))
    | (go_at_call 23; go_must (refine (marshal12 A b.size b.size _ f r (bytesOf b) k _ (bytesOf_length b) (Nat.le_refl _) (bytesOf_length b ▸ hC) HF.out).mono ?_; rintro e w2 ⟨rfl, hb2⟩)))
  all_goals go_wp2
  all_goals go_ret2
  all_goals exact ⟨rfl, hbW.trans (hb2.mono hbW.size)⟩

end Go.Proofs.YticfdfomlcohpaaGreatDoor.Db
