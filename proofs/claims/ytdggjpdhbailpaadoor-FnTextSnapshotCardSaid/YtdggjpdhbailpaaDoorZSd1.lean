/- The walk of setDigits: the digits of a number in a row of 32 bytes, and how many there are without the zeros at their end. Conditions: the number is from 1 on. -/
import Derived.Test.YtdggjpdhbailpaaDoorZSf4
import Derived.Test.YtdggjpdhbailpaaDoorZEfp
import Derived.Lib.ItoaMem
import Derived.Lib.ItoaLen
import Derived.RegionTactic
import Derived.Deep.QuietTactic
import Derived.BigQuiet
namespace Go.Proofs.YtdggjpdhbailpaaDoor.Sd1
open Go.RowKit Go.Sort Go.Lib Go.Proofs.YtdggjpdhbailpaaDoorW.PrintWords Go.Proofs.YtdggjpdhbailpaaDoorW.PrintLast Go.Proofs.YtdggjpdhbailpaaDoorW.PrintMore

def cellOf (b : UInt8) : Value := Value.int .u8 (b.toNat : Int)

/-- The byte at place t of the row: a digit, or 0 behind the digits. -/
def byteAt (u t : Nat) : Int := if t < nDigits u then ((dg u (nDigits u - 1 - t)).toNat : Int) else 0
def bufOf (u : Nat) : List Int := (List.range 32).map (byteAt u)
/-- How many of the first n digits are left when the zeros at their end are gone. -/
def strip (u : Nat) : Nat → Nat
  | 0 => 0
  | n + 1 => if byteAt u n = 48 then strip u n else n + 1
theorem strip_le (u n : Nat) : strip u n ≤ n := by
  induction n with
  | zero => exact Nat.le_refl _
  | succ n ih =>
    unfold strip
    split <;> omega

theorem strip_zero {u k : Nat} (h : byteAt u k = 48) : strip u (k + 1) = strip u k := by rw [strip, if_pos h]
theorem strip_end {u k : Nat} (h : byteAt u k ≠ 48) : strip u (k + 1) = k + 1 := by rw [strip, if_neg h]
theorem dg_range (u k : Nat) : 48 ≤ (dg u k).toNat ∧ (dg u k).toNat ≤ 57 := by
  unfold dg
  have h : u / 10 ^ k % 10 < 10 := Nat.mod_lt _ (by decide)
  generalize u / 10 ^ k % 10 = x at h
  have e : (UInt8.ofNat (48 + x)).toNat = 48 + x := by simp; omega
  rw [e]
  omega
theorem byteAt_range (u t : Nat) : 0 ≤ byteAt u t ∧ byteAt u t < 128 := by
  unfold byteAt
  split
  · have := dg_range u (nDigits u - 1 - t)
    omega
  · omega
theorem buf_range (u : Nat) : ∀ x ∈ bufOf u, 0 ≤ x ∧ x < 128 := by
  intro x hx
  obtain ⟨t, _, rfl⟩ := List.mem_map.1 hx
  exact byteAt_range u t

def bufCells (u : Nat) : Array Value := ((bufOf u).map fun x => Value.int .u8 x).toArray
theorem bufCells_at (u t : Nat) (h : t < 32) : (bufCells u)[t]? = some (.int .u8 (byteAt u t)) := by
  simp [bufCells, bufOf, h]
theorem bufCells_size (u : Nat) : (bufCells u).size = 32 := by simp [bufCells, bufOf]

theorem put_is (u : Nat) (dk : Array UInt8) (v' : Nat) (hi : FmtInv (nDigits u) u 0 v' dk) : putCells (fun (b : UInt8) => Value.int .u8 (b.toNat : Int)) 0 dk (Array.replicate 32 (.int .u8 0)) = bufCells u := by
  refine Array.ext_getElem? fun i => ?_
  by_cases h32 : i < 32
  · rw [bufCells_at u i h32]
    unfold putCells
    rw [Array.getElem?_mapIdx, Array.getElem?_replicate, if_pos h32, Option.map_some]
    unfold byteAt
    by_cases hl : i < nDigits u
    · rw [if_pos ⟨Nat.zero_le _, by rw [hi.size]; omega⟩, if_pos hl, Nat.sub_zero, hi.done i (Nat.zero_le _) hl]
    · rw [if_neg (by rw [hi.size]; omega), if_neg hl]
  · rw [Array.getElem?_eq_none (by unfold putCells; simp; omega), Array.getElem?_eq_none (by rw [bufCells_size]; omega)]

/-- formatBase10 into the first digits of a row of 32 zeros. -/
theorem fb10 (b u : Nat) (t : TypeId) (hu : u < 18446744073709551616) (w : World) (hb : w.heap[b]? = some (.cells (Array.replicate 32 (.int .u8 0)) t (0, 0))) :
    Calls Tryd.prog 84 #[.slice (some ⟨b, 0, none⟩) (nDigits u) 32, .int .u64 u] w fun e w' =>
      e = .returned (.tuple #[]) ∧ w'.heap[b]? = some (.cells (bufCells u) t (0, 0)) ∧ Below b w w' ∧ (∀ k, k ≠ b → w'.heap[k]? = w.heap[k]?) := by
  have h20 := nDigits_le20 u hu
  have hH : Holds (fun (b : UInt8) => Value.int .u8 (b.toNat : Int)) w b 0 (Array.replicate (nDigits u) (0 : UInt8)) := by
    intro j hj
    rw [Array.size_replicate] at hj
    refine ⟨?_, blk_frozen hb _⟩
    rw [blk_cell hb]
    have : (Array.replicate (nDigits u) (0 : UInt8))[j]! = 0 := by
      rw [getElem!_pos _ j (by simpa using hj)]
      simp
    rw [this, Nat.zero_add, Array.getElem?_replicate, if_pos (by omega)]
    rfl
  have h := Tryd.internal_strconv_formatBase10 b 0 32 u (Array.replicate (nDigits u) (0 : UInt8)) w hH (by rw [Array.size_replicate]; exact lt_pow_nDigits u) hu (by rw [Array.size_replicate]; omega)
  rw [Array.size_replicate] at h
  refine h.mono fun e w' ⟨he, n, v', dk, hw, hi⟩ => ⟨he, ?_, ?_, ?_⟩
  · subst hw
    show (mapBlock w b _).heap[b]? = _
    unfold mapBlock
    rw [Array.getElem?_modify, if_pos rfl, hb, Option.map_some]
    show some (Obj.cells (putCells _ 0 dk _) t (0, 0)) = _
    rw [put_is u dk v' hi]
  · subst hw
    refine Below.mk rfl rfl rfl ?_ fun k hk => ?_
    · show w.heap.size ≤ (mapBlock w b _).heap.size
      unfold mapBlock
      simp
    · show (mapBlock w b _).heap[k]? = _
      unfold mapBlock
      rw [Array.getElem?_modify, if_neg (by omega)]
  · subst hw
    intro k hk
    show (mapBlock w b _).heap[k]? = _
    unfold mapBlock
    rw [Array.getElem?_modify, if_neg (fun h => hk h.symm)]

set_option maxHeartbeats 1000000 in
/-- setDigits into a row of 32 zeros. -/
theorem setd (b u : Nat) (t : TypeId) (p : Int) (hu : u < 18446744073709551616) (p0 : -1000 ≤ p) (p1 : p ≤ 1000) (w : World) (hb : w.heap[b]? = some (.cells (Array.replicate 32 (.int .u8 0)) t (0, 0))) :
    Calls Tryd.prog 107 #[.slice (some ⟨b, 0, none⟩) 32 32, .int .u64 u, .int .i64 p, .int .i64 (nDigits u)] w fun e w' =>
      e = .returned (.tuple #[.int .i64 (nDigits u + p), .int .i64 (strip u (nDigits u))]) ∧ w'.heap[b]? = some (.cells (bufCells u) t (0, 0)) ∧ Below b w w' ∧ (∀ k, k ≠ b → w'.heap[k]? = w.heap[k]?) := by
  have h20 := nDigits_le20 u hu
  obtain ⟨nd, hnd⟩ : ∃ nd, nd = nDigits u := ⟨_, rfl⟩
  have HF := Aside0.mk (fb10 b u t hu w hb)
  rw [← hnd] at HF h20 ⊢
  have n1 : IntKind.i64.wrap ((nd : Int) + p) = nd + p := by rw [IntKind.wrap_i64]; omega
  have n2 : (nd : Int) ≤ 32 := by omega
  obtain ⟨z, hz⟩ : ∃ z, z = strip u nd := ⟨_, rfl⟩
  rw [← hz]
  have HZ := Aside0.mk hz
  clear hb hu hnd hz
  go_enter Tryd.func107, Tryd.ntmps107
  go_wp2_with (first
    | (go_at_call 84; go_must (refine HF.out.mono ?_; rintro en w1 ⟨rfl, hb1, hB, hK⟩)))
  go_loop [3] (fun v => ∃ k : Nat, v = .int .i64 k ∧ k ≤ nd ∧ strip u k = z) (fun v => (RowKit.intOf v).toNat)
  case atStart => exact ⟨nd, rfl, Nat.le_refl _, HZ.out.symm⟩
  case round =>
    obtain ⟨k, rfl, hk, hs⟩ := hrel
    cases k with
    | zero =>
      have hz0 : z = 0 := by simpa [strip] using hs.symm
      go_wp2
      go_ret2
      subst hz0
      exact ⟨by simp, hb1, hB, hK⟩
    | succ k =>
      have n3 : IntKind.i64.wrap (((k + 1 : Nat) : Int) - 1) = (k : Int) := by rw [IntKind.wrap_i64]; omega
      have hc : w1.cell? ⟨b, k, none⟩ = some (.int .u8 (byteAt u k)) := by rw [blk_cell hb1, bufCells_at u k (by omega)]
      by_cases h48 : byteAt u k = 48
      · have hs2 : strip u k = z := (strip_zero h48).symm.trans hs
        go_wp2
        go_round
        case rel => exact ⟨k, by go_num, by omega, hs2⟩
        case measure => simp [RowKit.intOf]
      · have hs2 : z = k + 1 := hs.symm.trans (strip_end h48)
        go_wp2
        go_ret2
        subst hs2
        exact ⟨by simp, hb1, hB, hK⟩

end Go.Proofs.YtdggjpdhbailpaaDoor.Sd1
