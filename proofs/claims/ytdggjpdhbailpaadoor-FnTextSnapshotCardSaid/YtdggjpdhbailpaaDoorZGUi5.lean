/- AppendUint at base 10, numbers below 100. Conditions: the row that is appended to is the call's own. -/
import Derived.Test.YtdggjpdhbailpaaDoorZGAs1
import Derived.Test.YtdggjpdhbailpaaDoorZSd1
import Derived.Test.YtdggjpdhbailpaaDoorZShD
import Derived.Test.YtdggjpdhbailpaaDoorZGTb
import Derived.Deep.AppendLies
import Derived.Lib.ItoaMem
import Derived.Lib.ItoaLen
namespace Go.Proofs.YtdggjpdhbailpaaDoor.Ui1
open Go.RowKit Go.Proofs.YtdggjpdhbailpaaDoorW.PrintWords Go.Proofs.YtdggjpdhbailpaaDoorW.PrintLast Go.Proofs.YtdggjpdhbailpaaDoorW.PrintMore Go.Proofs.YtdggjpdhbailpaaDoor.As1 Go.Proofs.YtdggjpdhbailpaaDoor.PFnTextAscii
set_option linter.unusedSectionVars false
variable [γ_ : Gho]

def decs (u : Nat) : ByteArray := ⟨(Lib.decDigits u).toArray⟩

theorem small_size (u : Nat) (h : u < 18446744073709551616) : (decs u).size ≤ 20 := by
  have h1 := Lib.nDigits_le20 u h
  have h2 : (Lib.decDigits u).length = Lib.nDigits u := Lib.decDigits_length u
  show (Lib.decDigits u).toArray.size ≤ 20
  rw [List.size_toArray, h2]
  exact h1

theorem au_small (u : Nat) (hu : u < 100) (P0 : Nat → Prop) (v : Value) (l : List Int) (w0 w : World) (hl : l.length + 4600 < 140737488355328) (hB : Below w0.heap.size w0 w) (ho : Kd.G (Kd.int .u8) 5 w w0.heap.size P0 v l) :
    Calls Tryd.prog 95 #[v, .int .u64 u, .int .i64 10] w fun e w' => ∃ v', e = .returned v' ∧ Kd.G (Kd.int .u8) 5 w' w0.heap.size (fun k => P0 k ∨ w.heap.size ≤ k) v' (l ++ bytesOf (decs u)) ∧ Below w0.heap.size w0 w' ∧ Kept w w' P0 := by
  have hs : Aside0 ((decs u).size ≤ 20) := Aside0.mk (small_size u (by omega))
  have HSM : Aside0 (∀ w, Calls Tryd.prog 82 #[.int .i64 u] w fun e w' => e = .returned (.string (decs u)) ∧ w' = w) := Aside0.mk (fun w => Tryd.internal_strconv_small u hu w)
  obtain ⟨y, hy⟩ : ∃ y, y = decs u := ⟨_, rfl⟩
  rw [← hy] at hs HSM ⊢
  clear hy
  have HO := Aside0.mk ho
  have HB := Aside0.mk hB
  have HL := Aside0.mk hl
  clear ho hB hl
  have n1 : IntKind.i64.wrap (u : Int) = u := by rw [IntKind.wrap_i64]; omega
  go_enter Tryd.func95, Tryd.ntmps95
  go_wp2_with (first
    | (go_at_call 82; go_must (refine (HSM.out _).mono ?_; rintro e w1 ⟨rfl, rfl⟩))
    | (at_builtin; refine wpList_app_str (w0 := w0) w0.heap.size rfl (.tmp 13) (.tmp 16) 29 9 5 rfl Tryd.underlying29 Tryd.underlying9 info5 P0 v l y rfl rfl ?aO ?aB ?aS ?aL ?_; (case aO => exact HO.out); (case aB => exact HB.out); (case aS => exact HB.out.size); (case aL => have := HL.out; have := hs.out; omega); intro v1 w1 hR hB1 hK1))
  go_ret
  exact ⟨v1, rfl, hR, hB1, hK1⟩

end Go.Proofs.YtdggjpdhbailpaaDoor.Ui1

/- append of a row of bytes to a row of the call's own, and AppendUint at base 10 from 100 on. Conditions: the row that is appended to is the call's own; the table uint64pow10 reads as laid. -/
namespace Go.Proofs.YtdggjpdhbailpaaDoor.Ui2
open Go.Sort Go.Lib Go.Proofs.YtdggjpdhbailpaaDoor.Sd1 Go.Proofs.YtdggjpdhbailpaaDoor.Ui1 Go.RowKit Go.Proofs.YtdggjpdhbailpaaDoorW.PrintWords Go.Proofs.YtdggjpdhbailpaaDoorW.PrintLast Go.Proofs.YtdggjpdhbailpaaDoorW.PrintMore Go.Proofs.YtdggjpdhbailpaaDoor.As1 Go.Proofs.YtdggjpdhbailpaaDoor.PFnTextAscii
set_option linter.unusedSectionVars false

def buf24 (u : Nat) : List Int := (List.range 24).map (byteAt u)
def cells24 (u : Nat) : Array Value := ((buf24 u).map fun x => Value.int .u8 x).toArray
theorem cells24_at (u t : Nat) (h : t < 24) : (cells24 u)[t]? = some (.int .u8 (byteAt u t)) := by
  simp [cells24, buf24, h]
theorem cells24_size (u : Nat) : (cells24 u).size = 24 := by simp [cells24, buf24]

theorem put24 (u : Nat) (dk : Array UInt8) (v' : Nat) (hi : FmtInv (nDigits u) u 0 v' dk) : putCells (fun (b : UInt8) => Value.int .u8 (b.toNat : Int)) 0 dk (Array.replicate 24 (.int .u8 0)) = cells24 u := by
  refine Array.ext_getElem? fun i => ?_
  by_cases h24 : i < 24
  · rw [cells24_at u i h24]
    unfold putCells
    rw [Array.getElem?_mapIdx, Array.getElem?_replicate, if_pos h24, Option.map_some]
    unfold byteAt
    by_cases hl : i < nDigits u
    · rw [if_pos ⟨Nat.zero_le _, by rw [hi.size]; omega⟩, if_pos hl, Nat.sub_zero, hi.done i (Nat.zero_le _) hl]
    · rw [if_neg (by rw [hi.size]; omega), if_neg hl]
  · rw [Array.getElem?_eq_none (by unfold putCells; simp; omega), Array.getElem?_eq_none (by rw [cells24_size]; omega)]

/-- formatBase10 into the first digits of a row of 24 zeros. -/
theorem fb24 (b u : Nat) (t : TypeId) (hu : u < 18446744073709551616) (w : World) (hb : w.heap[b]? = some (.cells (Array.replicate 24 (.int .u8 0)) t (0, 0))) :
    Calls Tryd.prog 84 #[.slice (some ⟨b, 0, none⟩) (nDigits u) 24, .int .u64 u] w fun e w' =>
      e = .returned (.tuple #[]) ∧ w'.heap[b]? = some (.cells (cells24 u) t (0, 0)) ∧ Below b w w' ∧ (∀ k, k ≠ b → w'.heap[k]? = w.heap[k]?) := by
  have h20 := nDigits_le20 u hu
  have hH : Holds (fun (b : UInt8) => Value.int .u8 (b.toNat : Int)) w b 0 (Array.replicate (nDigits u) (0 : UInt8)) := by
    intro j hj
    rw [Array.size_replicate] at hj
    refine ⟨?_, blk_frozen hb _⟩
    rw [blk_cell hb]
    have : (Array.replicate (nDigits u) (0 : UInt8))[j]! = 0 := by
      rw [getElem!_pos _ j (by simpa using hj)]
      simp
    rw [this, Nat.zero_add, Array.getElem?_replicate, if_pos (by omega)]
    rfl
  have h := Tryd.internal_strconv_formatBase10 b 0 24 u (Array.replicate (nDigits u) (0 : UInt8)) w hH (by rw [Array.size_replicate]; exact lt_pow_nDigits u) hu (by rw [Array.size_replicate]; omega)
  rw [Array.size_replicate] at h
  refine h.mono fun e w' ⟨he, n, v', dk, hw, hi⟩ => ⟨he, ?_, ?_, ?_⟩
  · subst hw
    show (mapBlock w b _).heap[b]? = _
    unfold mapBlock
    rw [Array.getElem?_modify, if_pos rfl, hb, Option.map_some]
    show some (Obj.cells (putCells _ 0 dk _) t (0, 0)) = _
    rw [put24 u dk v' hi]
  · subst hw
    refine Below.mk rfl rfl rfl ?_ fun k hk => ?_
    · show w.heap.size ≤ (mapBlock w b _).heap.size
      unfold mapBlock
      simp
    · show (mapBlock w b _).heap[k]? = _
      unfold mapBlock
      rw [Array.getElem?_modify, if_neg (by omega)]
  · subst hw
    intro k hk
    show (mapBlock w b _).heap[k]? = _
    unfold mapBlock
    rw [Array.getElem?_modify, if_neg (fun h => hk h.symm)]


end Go.Proofs.YtdggjpdhbailpaaDoor.Ui2

/- AppendUint at base 10 from 100 on. Conditions: the row that is appended to is the call's own; the table uint64pow10 reads as laid. -/
namespace Go.Proofs.YtdggjpdhbailpaaDoor.Ui3
open Go.RowKit Go.Proofs.YtdggjpdhbailpaaDoorW.PrintWords Go.Proofs.YtdggjpdhbailpaaDoorW.PrintLast Go.Proofs.YtdggjpdhbailpaaDoorW.PrintMore Go.Proofs.YtdggjpdhbailpaaDoor.As1 Go.Proofs.YtdggjpdhbailpaaDoor.PFnTextAscii Go.Proofs.YtdggjpdhbailpaaDoor.Sd1 Go.Proofs.YtdggjpdhbailpaaDoor.Ui1 Go.Proofs.YtdggjpdhbailpaaDoor.Ui2
set_option linter.unusedSectionVars false
variable [γ_ : Gho]

set_option maxHeartbeats 1000000 in
theorem au_big (u : Nat) (hu0 : 100 ≤ u) (hu : u < 18446744073709551616) (P0 : Nat → Prop) (v : Value) (l : List Int) (w0 w : World) (hl : l.length + 4600 < 140737488355328) (hB : Below w0.heap.size w0 w) (ho : Kd.G (Kd.int .u8) 5 w w0.heap.size P0 v l) (hT2 : Ft1.Tab w) :
    Calls Tryd.prog 95 #[v, .int .u64 u, .int .i64 10] w fun e w' => ∃ v', e = .returned v' ∧ Kd.G (Kd.int .u8) 5 w' w0.heap.size (fun k => P0 k ∨ w.heap.size ≤ k) v' (l ++ bytesOf (decs u)) ∧ Below w0.heap.size w0 w' ∧ Kept w w' P0 := by
  have h20 := Lib.nDigits_le20 u hu
  have hpos := Lib.nDigits_pos u
  obtain ⟨nd, hnd⟩ : ∃ nd, nd = Lib.nDigits u := ⟨_, rfl⟩
  have HND : Aside0 (∀ w, Ft1.Tab w → Calls Tryd.prog 83 #[.int .u64 u] w fun e w' => e = .returned (.int .i64 nd) ∧ w' = w) := Aside0.mk (fun w h => hnd ▸ Tryd.internal_strconv_numDigits u (by omega) hu w h)
  have HFB : Aside0 (∀ (b : Nat) (t : TypeId) (w : World), w.heap[b]? = some (.cells (Array.replicate 24 (.int .u8 0)) t (0, 0)) → Calls Tryd.prog 84 #[.slice (some ⟨b, 0, none⟩) nd 24, .int .u64 u] w fun e w' =>
      e = .returned (.tuple #[]) ∧ w'.heap[b]? = some (.cells (cells24 u) t (0, 0)) ∧ Below b w w' ∧ (∀ k, k ≠ b → w'.heap[k]? = w.heap[k]?)) := Aside0.mk (fun b t w h => hnd ▸ fb24 b u t hu w h)
  obtain ⟨ys, hys⟩ : ∃ ys, ys = bytesOf (decs u) := ⟨_, rfl⟩
  have HY : Aside0 (ys.length = nd ∧ ∀ j y, ys[j]? = some y → j < nd ∧ y = byteAt u j) := Aside0.mk (by
    have hl : (Lib.decDigits u).length = nd := by rw [Lib.decDigits_length, hnd]
    have hb : bytesOf (decs u) = (Lib.decDigits u).map fun b => (b.toNat : Int) := by simp [bytesOf, decs]
    rw [hys, hb]
    refine ⟨by simp [hl], fun j y hy => ?_⟩
    simp only [List.getElem?_map, Option.map_eq_some_iff] at hy
    obtain ⟨b, hb2, rfl⟩ := hy
    obtain ⟨hj, _⟩ := List.getElem?_eq_some_iff.1 hb2
    refine ⟨by omega, ?_⟩
    have he : (Lib.decDigits u)[j]? = some (Lib.dg u (Lib.nDigits u - 1 - j)) := by
      rw [Lib.decDigits_eq, List.getElem?_map, List.getElem?_range (by omega)]
      rfl
    rw [hb2] at he
    unfold byteAt
    rw [if_pos (by omega), Option.some.inj he])
  rw [← hys]
  rw [← hnd] at h20 hpos
  have HYC : Aside0 (∀ (w1 : World) (b : Nat) (t : TypeId), w1.heap[b]? = some (.cells (cells24 u) t (0, 0)) → ∀ j y, ys[j]? = some y → w1.cell? ((⟨b, 0, none⟩ : Addr).add j) = some (.int .u8 y)) := Aside0.mk (fun w1 b t hz j y hy => by
    obtain ⟨h1, rfl⟩ := HY.out.2 j y hy
    rw [Go.Proofs.YtdggjpdhbailpaaDoorW.PrintWords.add_plain, blk_cell hz, cells24_at u j (by omega)])
  clear hys hnd
  have HO := Aside0.mk ho
  have HB := Aside0.mk hB
  have HL := Aside0.mk hl
  have HT := Aside0.mk hT2
  have HU := Aside0.mk hu
  have n1 : (nd : Int) ≤ 24 := by omega
  have n2 : (0 : Int) ≤ (nd : Int) := by omega
  clear ho hB hl hT2 hu
  go_enter Tryd.func95, Tryd.ntmps95
  have HT2 : Aside0 (∀ o, Ft1.Tab (w.alloc o)) := Aside0.mk (fun o => Ft1.Tab.on HT.out (below_alloc (Below.refl _ _) o))
  go_wp2_with (first
    | (go_at_call 83; go_must (refine (HND.out _ ?h0).mono ?_; (case h0 => exact HT2.out _); rintro e w1 ⟨rfl, rfl⟩))
    | (go_at_call 84; go_must (refine (HFB.out w.heap.size 135 _ ?h0).mono ?_; (case h0 => refine (heap_alloc_new _ _).trans ?_; rfl); rintro e w1 ⟨rfl, hz1, hb1, hk1⟩; have hB1 := RowKit.Below.trans (below_alloc (RowKit.Below.refl w.heap.size w) _) hb1))
    | (at_builtin; refine wpList_app_row (w0 := w0) w0.heap.size rfl (.tmp 24) (.tmp 26) 29 5 rfl Tryd.underlying29 info5 P0 v l ys ⟨w.heap.size, 0, none⟩ nd 24 rfl rfl ?aM ?aN ?aY ?aO ?aB ?aS ?aL ?_; (case aM => exact HY.out.1); (case aN => exact hpos); (case aY => exact HYC.out _ _ _ hz1); (case aO => exact Kd.G_below HO.out hB1); (case aB => exact HB.out.trans (hB1.mono HB.out.size)); (case aS => exact Nat.le_trans HB.out.size hB1.size); (case aL => have := HL.out; omega); intro v2 w2 hR hB2 hK2))
  go_ret
  exact ⟨v2, rfl, Kd.G_mono hR (fun k hk => hk.imp id (fun h => Nat.le_trans hB1.size h)), hB2, (Kept.of_below hB1 P0).then_ hK2 (fun _ h => .inl h)⟩

end Go.Proofs.YtdggjpdhbailpaaDoor.Ui3

/- AppendUint and AppendInt at base 10, the public ones too. Conditions: the row that is appended to is the call's own; the table uint64pow10 reads as laid. -/
namespace Go.Proofs.YtdggjpdhbailpaaDoor.Ui4
open Go.RowKit Go.Proofs.YtdggjpdhbailpaaDoorW.PrintWords Go.Proofs.YtdggjpdhbailpaaDoorW.PrintLast Go.Proofs.YtdggjpdhbailpaaDoorW.PrintMore Go.Proofs.YtdggjpdhbailpaaDoor.As1 Go.Proofs.YtdggjpdhbailpaaDoor.PFnTextAscii Go.Proofs.YtdggjpdhbailpaaDoor.Sd1 Go.Proofs.YtdggjpdhbailpaaDoor.Ui1 Go.Proofs.YtdggjpdhbailpaaDoor.Ui2 Go.Proofs.YtdggjpdhbailpaaDoor.Ui3
set_option linter.unusedSectionVars false
variable [γ_ : Gho]

theorem au (u : Nat) (hu : u < 18446744073709551616) (P0 : Nat → Prop) (v : Value) (l : List Int) (w0 w : World) (hl : l.length + 4600 < 140737488355328) (hB : Below w0.heap.size w0 w) (ho : Kd.G (Kd.int .u8) 5 w w0.heap.size P0 v l) (hT2 : Ft1.Tab w) :
    Calls Tryd.prog 95 #[v, .int .u64 u, .int .i64 10] w fun e w' => ∃ v', e = .returned v' ∧ Kd.G (Kd.int .u8) 5 w' w0.heap.size (fun k => P0 k ∨ w.heap.size ≤ k) v' (l ++ bytesOf (decs u)) ∧ Below w0.heap.size w0 w' ∧ Kept w w' P0 := by
  by_cases h : u < 100
  · exact au_small u h P0 v l w0 w hl hB ho
  · exact au_big u (by omega) hu P0 v l w0 w hl hB ho hT2

theorem aup (u : Nat) (hu : u < 18446744073709551616) (P0 : Nat → Prop) (v : Value) (l : List Int) (w0 w : World) (hl : l.length + 4600 < 140737488355328) (hB : Below w0.heap.size w0 w) (ho : Kd.G (Kd.int .u8) 5 w w0.heap.size P0 v l) (hT2 : Ft1.Tab w) :
    Calls Tryd.prog 81 #[v, .int .u64 u, .int .i64 10] w fun e w' => ∃ v', e = .returned v' ∧ Kd.G (Kd.int .u8) 5 w' w0.heap.size (fun k => P0 k ∨ w.heap.size ≤ k) v' (l ++ bytesOf (decs u)) ∧ Below w0.heap.size w0 w' ∧ Kept w w' P0 := by
  have HC := Aside0.mk (au u hu P0 v l w0 w hl hB ho hT2)
  clear hu hl hB ho hT2
  go_enter Tryd.func81, Tryd.ntmps81
  go_wp2_with (go_at_call 95; go_must (refine HC.out.mono ?_; rintro en w4 ⟨v', rfl, hR, hB4, hK4⟩))
  go_ret
  exact ⟨v', rfl, hR, hB4, hK4⟩

end Go.Proofs.YtdggjpdhbailpaaDoor.Ui4

/- AppendInt at base 10, numbers from 0 on. Conditions: as in Ui4. -/
namespace Go.Proofs.YtdggjpdhbailpaaDoor.Ui5
open Go.RowKit Go.Proofs.YtdggjpdhbailpaaDoorW.PrintWords Go.Proofs.YtdggjpdhbailpaaDoorW.PrintLast Go.Proofs.YtdggjpdhbailpaaDoorW.PrintMore Go.Proofs.YtdggjpdhbailpaaDoor.As1 Go.Proofs.YtdggjpdhbailpaaDoor.PFnTextAscii Go.Proofs.YtdggjpdhbailpaaDoor.Sd1 Go.Proofs.YtdggjpdhbailpaaDoor.Ui1 Go.Proofs.YtdggjpdhbailpaaDoor.Ui2 Go.Proofs.YtdggjpdhbailpaaDoor.Ui4
set_option linter.unusedSectionVars false
variable [γ_ : Gho]

theorem ai_pos (u : Nat) (hu : u < 9223372036854775808) (P0 : Nat → Prop) (v : Value) (l : List Int) (w0 w : World) (hl : l.length + 4600 < 140737488355328) (hB : Below w0.heap.size w0 w) (ho : Kd.G (Kd.int .u8) 5 w w0.heap.size P0 v l) (hT2 : Ft1.Tab w) :
    Calls Tryd.prog 94 #[v, .int .i64 u, .int .i64 10] w fun e w' => ∃ v', e = .returned v' ∧ Kd.G (Kd.int .u8) 5 w' w0.heap.size (fun k => P0 k ∨ w.heap.size ≤ k) v' (l ++ bytesOf (decs u)) ∧ Below w0.heap.size w0 w' ∧ Kept w w' P0 := by
  have HC := Aside0.mk (au u (by omega) P0 v l w0 w hl hB ho hT2)
  have n1 : IntKind.u64.wrap (u : Int) = u := by rw [IntKind.wrap_u64]; omega
  have n2 : decide ((u : Int) < 0) = false := decide_eq_false (by omega)
  clear hu hl hB ho hT2
  go_enter Tryd.func94, Tryd.ntmps94
  go_wp2_with (go_at_call 95; go_must (refine HC.out.mono ?_; rintro en w4 ⟨v', rfl, hR, hB4, hK4⟩))
  go_ret
  exact ⟨v', rfl, hR, hB4, hK4⟩

end Go.Proofs.YtdggjpdhbailpaaDoor.Ui5
