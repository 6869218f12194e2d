/- The walk of FnDefText, whatever the kind: from what fitting, DefText and DefMarshal give. Condition: the table uint64pow10 reads as laid. -/
import Derived.Test.YticfdfomlcohpaaGreatDoorDta
import Derived.Test.YticfdfomlcohpaaGreatDoorPzzFits4x1
import Derived.Deep.RegionHeld3
import Derived.Lib.SmallJoins
namespace Go.Proofs.YticfdfomlcohpaaGreatDoor.Dtb
open Go.RowKit Go.Proofs.YticfdfomlcohpaaGreatDoorW.PrintWords Go.Proofs.YticfdfomlcohpaaGreatDoorW.PrintLast Go.Proofs.YticfdfomlcohpaaGreatDoorW.PrintMore
open Go.Proofs.YticfdfomlcohpaaGreatDoor.Db Go.Proofs.YticfdfomlcohpaaGreatDoor.Dt Go.Proofs.YticfdfomlcohpaaGreatDoor.Dt4 Go.Proofs.YticfdfomlcohpaaGreatDoor.Dt5 Go.Proofs.YticfdfomlcohpaaGreatDoor.Dt8 Go.Proofs.YticfdfomlcohpaaGreatDoor.Dta

theorem form_is (t : Bool) (w : World) : Calls Tryz.prog 8 #[.bool t] w fun e w' => e = .returned (.int .i64 (if t = true then 2 else 1)) ∧ w = w' := by
  cases t
  all_goals
    go_enter Tryz.func8, Tryz.ntmps8
    go_wp2
    go_ret
    exact ⟨rfl, rfl⟩

theorem zz (K : Int) (B : Bool) (I U F : Int) (S N : ByteArray) (w : World) :
    Calls Tryz.prog 5 #[V K B I U F S N] w fun e w' => (∃ r, e = .returned (.bool r)) ∧ Below w.heap.size w w' := by
  have hf : ∃ r, PzzFits4.laws_zzFits4.f K B I U F S N = some r := by
    unfold PzzFits4.laws_zzFits4.f
    split
    · exact ⟨_, rfl⟩
    · split <;> exact ⟨_, rfl⟩
  obtain ⟨r, hr⟩ := hf
  exact (PzzFits4.laws_zzFits4.calls K B I U F S N r w hr).mono fun e w' ⟨he, hb⟩ => ⟨⟨r, he⟩, hb⟩

set_option maxHeartbeats 1000000 in
theorem law_of (K : Int) (B : Bool) (I U F : Int) (S N : ByteArray) (tag : Bool) (w : World) (ht : Tab w) (b : Bool) (i u : Int) (s : ByteArray) (ok : Bool) (X : Int → Prop) (R : Int → ByteArray → Prop)
    (hfit : ∀ W, Calls Tryz.prog 6 #[V K B I U F S N] W fun e w' => (∃ f, X f ∧ e = .returned (.tuple #[V K b i u f s es, .bool ok])) ∧ Below W.heap.size W w')
    (htxt : ok = true → ∀ f W, X f → Calls Tryz.prog 7 #[.int .i64 K, .int .i64 (if tag = true then 2 else 1), .bool b, .int .i64 i, .int .u64 u, .int .u64 f, .string s, .string es] W
      fun e w' => ((∃ r, R f r ∧ e = .returned (.tuple #[.string r, .int .i64 1])) ∨ e = .returned (.tuple #[.string es, .int .i64 2])) ∧ Below W.heap.size W w')
    (hmar : ok = true → ∀ f r W, X f → R f r → Tab W → Calls Tryz.prog 9 #[V K b i u f s es, .int .i64 (if tag = true then 2 else 1), .slice none 0 0, .slice none 0 0] W
      fun e w' => e = .returned (.tuple #[.string r, .bool true]) ∧ Below W.heap.size W w') :
    Calls Tryz.prog 3 #[V K B I U F S N, .bool tag] w fun e w' => e = .returned (.bool true) ∧ Below w.heap.size w w' := by
  have HFIT := Aside0.mk hfit
  have HTXT := Aside0.mk htxt
  have HMAR := Aside0.mk hmar
  have HT := Aside0.mk ht
  have HFORM := Aside0.mk (form_is tag)
  have HJ : Aside0 (∃ j : Int, j = if tag = true then 2 else 1) := Aside0.mk ⟨_, rfl⟩
  obtain ⟨j, hj⟩ := HJ.out
  rw [← hj] at HTXT HMAR HFORM
  clear hfit htxt hmar ht hj HJ
  go_enter Tryz.func3, Tryz.ntmps3
  go_wp2_with (first
    | (go_at_call 5; go_must (refine (zz _ _ _ _ _ _ _ _).mono ?_; rintro e w1 ⟨⟨rz, rfl⟩, hb1⟩; obtain ⟨hc1, hf1⟩ := bcell hb1; have hz1 := hb1.size; simp at hz1; have hB1 := (below_alloc (Below.refl _ _) _).trans (hb1.mono (by simp)); cases rz))
    | (go_at_call 6; go_must (refine (HFIT.out _).mono ?_; rintro e w2 ⟨⟨f, hX, rfl⟩, hb2⟩; obtain ⟨hc2, hf2⟩ := bcell hb2; have hz2 := hb2.size; have hB2 := hB1.trans (hb2.mono (by omega)); have HX := Aside0.mk hX; clear hX; cases ok)))
  · go_ret
    exact ⟨rfl, hB1⟩
  · go_ret
    exact ⟨rfl, below_alloc hB2 _⟩
  have hs2 : w.heap.size < w2.heap.size := by omega
  obtain ⟨W, hW⟩ : ∃ W, W = w2.alloc (.cells #[.int .i64 K, .bool b, .int .i64 i, .int .u64 u, .int .u64 f, .string s, .string es] 24) := ⟨_, rfl⟩
  generalize hg2 : w2.heap.size = g at *
  have HBW : Aside0 (Below w.heap.size w W) := Aside0.mk (hW ▸ below_alloc hB2 _)
  have HTW : Aside0 (Tab W) := Aside0.mk (HT.out.on HBW.out)
  have hzW : W.heap.size = g + 1 := by rw [hW]; simp [hg2]
  have k0 : W.cell? ⟨g, 0, none⟩ = some (.int .i64 K) := by rw [hW]; exact Joins.cell_alloc_mark_at w2 _ _ (0, 0) g 0 hg2.symm
  have k1 : W.cell? ⟨g, 1, none⟩ = some (.bool b) := by rw [hW]; exact Joins.cell_alloc_mark_at w2 _ _ (0, 0) g 1 hg2.symm
  have k2 : W.cell? ⟨g, 2, none⟩ = some (.int .i64 i) := by rw [hW]; exact Joins.cell_alloc_mark_at w2 _ _ (0, 0) g 2 hg2.symm
  have k3 : W.cell? ⟨g, 3, none⟩ = some (.int .u64 u) := by rw [hW]; exact Joins.cell_alloc_mark_at w2 _ _ (0, 0) g 3 hg2.symm
  have k4 : W.cell? ⟨g, 4, none⟩ = some (.int .u64 f) := by rw [hW]; exact Joins.cell_alloc_mark_at w2 _ _ (0, 0) g 4 hg2.symm
  have k5 : W.cell? ⟨g, 5, none⟩ = some (.string s) := by rw [hW]; exact Joins.cell_alloc_mark_at w2 _ _ (0, 0) g 5 hg2.symm
  have k6 : W.cell? ⟨g, 6, none⟩ = some (.string es) := by rw [hW]; exact Joins.cell_alloc_mark_at w2 _ _ (0, 0) g 6 hg2.symm
  rw [← hW]
  clear hW hB2 hB1
  have HTXT2 : Aside0 (∀ f W, X f → Calls Tryz.prog 7 #[.int .i64 K, .int .i64 j, .bool b, .int .i64 i, .int .u64 u, .int .u64 f, .string s, .string es] W
      fun e w' => (∃ (r : ByteArray) (c : Int), ((c = 1 ∧ R f r) ∨ c = 2) ∧ e = .returned (.tuple #[.string r, .int .i64 c])) ∧ Below W.heap.size W w') :=
    Aside0.mk (fun f W hX => (HTXT.out (by trivial) f W hX).mono (by
      rintro e w' ⟨⟨r, hR, rfl⟩ | rfl, hb⟩
      · exact ⟨⟨_, _, .inl ⟨rfl, hR⟩, rfl⟩, hb⟩
      · exact ⟨⟨_, _, .inr rfl, rfl⟩, hb⟩))
  clear HTXT
  go_region_held3 (fun w' => w'.cell? ⟨g, 0, none⟩ = some (.int .i64 K) ∧ w'.cell? ⟨g, 1, none⟩ = some (.bool b) ∧ w'.cell? ⟨g, 2, none⟩ = some (.int .i64 i) ∧ w'.cell? ⟨g, 3, none⟩ = some (.int .u64 u) ∧ w'.cell? ⟨g, 4, none⟩ = some (.int .u64 f) ∧ w'.cell? ⟨g, 5, none⟩ = some (.string s) ∧ w'.cell? ⟨g, 6, none⟩ = some (.string es))
    (first | (simp [k0, k1, k2, k3, k4, k5, k6]; done) | (simp [hc4, hzW, k0, k1, k2, k3, k4, k5, k6]; done) | go_keep)
    (first
    | (go_at_call 8; go_must (refine (HFORM.out _).mono ?_; rintro e w3 ⟨rfl, rfl⟩))
    | (go_at_call 7; go_must (refine (HTXT2.out _ _ HX.out).mono ?_; rintro e w4 ⟨⟨r, c, hR, rfl⟩, hb4⟩; have HR := Aside0.mk hR; clear hR; obtain ⟨hc4, hf4⟩ := bcell hb4; have hz4 := hb4.size; simp at hz4)))
  have m0 : w4.cell? ⟨g, 0, none⟩ = some (.int .i64 K) := by simp [hc4, hzW, k0]
  have m1 : w4.cell? ⟨g, 1, none⟩ = some (.bool b) := by simp [hc4, hzW, k1]
  have m2 : w4.cell? ⟨g, 2, none⟩ = some (.int .i64 i) := by simp [hc4, hzW, k2]
  have m3 : w4.cell? ⟨g, 3, none⟩ = some (.int .u64 u) := by simp [hc4, hzW, k3]
  have m4 : w4.cell? ⟨g, 4, none⟩ = some (.int .u64 f) := by simp [hc4, hzW, k4]
  have m5 : w4.cell? ⟨g, 5, none⟩ = some (.string s) := by simp [hc4, hzW, k5]
  have m6 : w4.cell? ⟨g, 6, none⟩ = some (.string es) := by simp [hc4, hzW, k6]
  have hB4 : Below w.heap.size w w4 := by
    have hd := HBW.out.drew
    exact hd.trans (hb4.mono (by simp; omega))
  have hg4 : g < w4.heap.size := by omega
  have HB4 := Aside0.mk hB4
  have HT4 : Aside0 (Tab w4) := Aside0.mk (HT.out.on hB4)
  clear hB4 hb4 hc4 hf4 k0 k1 k2 k3 k4 k5 k6 hc1 hf1 hb1 hc2 hf2 hb2
  rcases HR.out with ⟨rfl, hR⟩ | rfl
  · have HR2 := Aside0.mk hR
    clear hR HR
    go_wp2_with fail
    go_region_held3 (fun w' => w'.cell? ⟨g, 0, none⟩ = some (.int .i64 K) ∧ w'.cell? ⟨g, 1, none⟩ = some (.bool b) ∧ w'.cell? ⟨g, 2, none⟩ = some (.int .i64 i) ∧ w'.cell? ⟨g, 3, none⟩ = some (.int .u64 u) ∧ w'.cell? ⟨g, 4, none⟩ = some (.int .u64 f) ∧ w'.cell? ⟨g, 5, none⟩ = some (.string s) ∧ w'.cell? ⟨g, 6, none⟩ = some (.string es))
      (first | (simp [m0, m1, m2, m3, m4, m5, m6]; done) | (refine ⟨?_, ?_, ?_, ?_, ?_, ?_, ?_⟩ <;> (rw [hc5 _ _ (by simp; omega)]; simp [m0, m1, m2, m3, m4, m5, m6]; done)) | go_keep)
      (first
      | (go_at_call 8; go_must (refine (HFORM.out _).mono ?_; rintro e w3 ⟨rfl, rfl⟩))
      | (go_at_call 9; go_must (refine (HMAR.out (by trivial) _ _ _ HX.out HR2.out (by first | exact HT4.out | (have := HT4.out; simpa using this))).mono ?_; rintro e w5 ⟨rfl, hb5⟩; obtain ⟨hc5, hf5⟩ := bcell hb5)))
    go_wp2_with fail
    go_ret
    exact ⟨rfl, HB4.out.drew.trans (hb5.mono (by simp; exact HB4.out.size))⟩
  · go_wp2_with fail
    go_ret
    exact ⟨rfl, HB4.out⟩

end Go.Proofs.YticfdfomlcohpaaGreatDoor.Dtb
