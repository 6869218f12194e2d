/- AppendUint at base 10 from 100 on. Conditions: the row that is appended to is the call's own; the table uint64pow10 reads as laid. -/
import Derived.Test.YticfdfomlcohpaaDoorZUi2
namespace Go.Proofs.YticfdfomlcohpaaDoor.Ui3
open Go.RowKit Go.Proofs.YticfdfomlcohpaaDoorW.PrintWords Go.Proofs.YticfdfomlcohpaaDoorW.PrintLast Go.Proofs.YticfdfomlcohpaaDoorW.PrintMore Go.Proofs.YticfdfomlcohpaaDoor.As1 Go.Proofs.YticfdfomlcohpaaDoor.PFnTextAscii Go.Proofs.YticfdfomlcohpaaDoor.Sd1 Go.Proofs.YticfdfomlcohpaaDoor.Ui1 Go.Proofs.YticfdfomlcohpaaDoor.Ui2

set_option maxHeartbeats 1000000 in
theorem au_big (u : Nat) (hu0 : 100 ≤ u) (hu : u < 18446744073709551616) (P0 : Nat → Prop) (v : Value) (l : List Int) (w0 w : World) (hl : l.length + 4600 < 140737488355328) (hB : Below w0.heap.size w0 w) (ho : Kd.R (Kd.int .u8) 5 w w0.heap.size P0 v l) (hT2 : Ft1.Tab w) :
    Calls Tryd.prog 95 #[v, .int .u64 u, .int .i64 10] w fun e w' => ∃ v', e = .returned v' ∧ Kd.R (Kd.int .u8) 5 w' w0.heap.size (fun k => P0 k ∨ w.heap.size ≤ k) v' (l ++ bytesOf (decs u)) ∧ Below w0.heap.size w0 w' ∧ Kept w w' P0 := by
  have h20 := Lib.nDigits_le20 u hu
  have hpos := Lib.nDigits_pos u
  obtain ⟨nd, hnd⟩ : ∃ nd, nd = Lib.nDigits u := ⟨_, rfl⟩
  have HND : Aside0 (∀ w, Ft1.Tab w → Calls Tryd.prog 83 #[.int .u64 u] w fun e w' => e = .returned (.int .i64 nd) ∧ w' = w) := Aside0.mk (fun w h => hnd ▸ Tryd.internal_strconv_numDigits u (by omega) hu w h)
  have HFB : Aside0 (∀ (b : Nat) (t : TypeId) (w : World), w.heap[b]? = some (.cells (Array.replicate 24 (.int .u8 0)) t (0, 0)) → Calls Tryd.prog 84 #[.slice (some ⟨b, 0, none⟩) nd 24, .int .u64 u] w fun e w' =>
      e = .returned (.tuple #[]) ∧ w'.heap[b]? = some (.cells (cells24 u) t (0, 0)) ∧ Below b w w' ∧ (∀ k, k ≠ b → w'.heap[k]? = w.heap[k]?)) := Aside0.mk (fun b t w h => hnd ▸ fb24 b u t hu w h)
  obtain ⟨ys, hys⟩ : ∃ ys, ys = bytesOf (decs u) := ⟨_, rfl⟩
  have HY : Aside0 (ys.length = nd ∧ ∀ j y, ys[j]? = some y → j < nd ∧ y = byteAt u j) := Aside0.mk (by
    have hl : (Lib.decDigits u).length = nd := by rw [Lib.decDigits_length, hnd]
    have hb : bytesOf (decs u) = (Lib.decDigits u).map fun b => (b.toNat : Int) := by simp [bytesOf, decs]
    rw [hys, hb]
    refine ⟨by simp [hl], fun j y hy => ?_⟩
    simp only [List.getElem?_map, Option.map_eq_some_iff] at hy
    obtain ⟨b, hb2, rfl⟩ := hy
    obtain ⟨hj, _⟩ := List.getElem?_eq_some_iff.1 hb2
    refine ⟨by omega, ?_⟩
    have he : (Lib.decDigits u)[j]? = some (Lib.dg u (Lib.nDigits u - 1 - j)) := by
      rw [Lib.decDigits_eq, List.getElem?_map, List.getElem?_range (by omega)]
      rfl
    rw [hb2] at he
    unfold byteAt
    rw [if_pos (by omega), Option.some.inj he])
  rw [← hys]
  rw [← hnd] at h20 hpos
  have HYC : Aside0 (∀ (w1 : World) (b : Nat) (t : TypeId), w1.heap[b]? = some (.cells (cells24 u) t (0, 0)) → ∀ j y, ys[j]? = some y → w1.cell? ((⟨b, 0, none⟩ : Addr).add j) = some (.int .u8 y)) := Aside0.mk (fun w1 b t hz j y hy => by
    obtain ⟨h1, rfl⟩ := HY.out.2 j y hy
    rw [Go.Proofs.YticfdfomlcohpaaDoorW.PrintWords.add_plain, blk_cell hz, cells24_at u j (by omega)])
  clear hys hnd
  have HO := Aside0.mk ho
  have HB := Aside0.mk hB
  have HL := Aside0.mk hl
  have HT := Aside0.mk hT2
  have HU := Aside0.mk hu
  have n1 : (nd : Int) ≤ 24 := by omega
  have n2 : (0 : Int) ≤ (nd : Int) := by omega
  clear ho hB hl hT2 hu
  go_enter Tryd.func95, Tryd.ntmps95
  have HT2 : Aside0 (∀ o, Ft1.Tab (w.alloc o)) := Aside0.mk (fun o => Ft1.Tab.on HT.out (below_alloc (Below.refl _ _) o))
  go_wp2_with (first
    | (go_at_call 83; go_must (refine (HND.out _ ?h0).mono ?_; (case h0 => exact HT2.out _); rintro e w1 ⟨rfl, rfl⟩))
    | (go_at_call 84; go_must (refine (HFB.out w.heap.size 135 _ ?h0).mono ?_; (case h0 => refine (heap_alloc_new _ _).trans ?_; rfl); rintro e w1 ⟨rfl, hz1, hb1, hk1⟩; have hB1 := RowKit.Below.trans (below_alloc (RowKit.Below.refl w.heap.size w) _) hb1))
    | (at_builtin; refine wpList_app_row (w0 := w0) w0.heap.size rfl (.tmp 24) (.tmp 26) 29 5 rfl Tryd.underlying29 info5 P0 v l ys ⟨w.heap.size, 0, none⟩ nd 24 rfl rfl ?aM ?aN ?aY ?aO ?aB ?aS ?aL ?_; (case aM => exact HY.out.1); (case aN => exact hpos); (case aY => exact HYC.out _ _ _ hz1); (case aO => exact Kd.R_below HO.out hB1); (case aB => exact HB.out.trans (hB1.mono HB.out.size)); (case aS => exact Nat.le_trans HB.out.size hB1.size); (case aL => have := HL.out; omega); intro v2 w2 hR hB2 hK2))
  go_ret
  exact ⟨v2, rfl, Kd.R_mono hR (fun k hk => hk.imp id (fun h => Nat.le_trans hB1.size h)), hB2, (Kept.of_below hB1 P0).then_ hK2 (fun _ h => .inl h)⟩

end Go.Proofs.YticfdfomlcohpaaDoor.Ui3
