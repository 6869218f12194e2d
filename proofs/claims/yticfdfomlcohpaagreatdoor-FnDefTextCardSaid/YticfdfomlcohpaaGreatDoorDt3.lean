/- The walks of strconv.FormatUint and strconv.FormatInt at base 10. Condition: the table uint64pow10 reads as its initialiser lays it. -/
import Derived.Test.YticfdfomlcohpaaGreatDoorDt2
import Derived.Test.YticfdfomlcohpaaGreatDoorShA
import Derived.Lib.ItoaMem
import Derived.Lib.Slices
import Derived.Lib.AppendIntMem
import Derived.Laws.IdiomStrings
namespace Go.Proofs.YticfdfomlcohpaaGreatDoor.Dt3
open Go.RowKit Go.Sort Go.Lib

set_option maxHeartbeats 6400000 in
set_option maxRecDepth 100000 in
theorem fmtu (u : Nat) (hu64 : u < 18446744073709551616) (w : World) (htab : Lib.TabIs Tryz.prog w "internal/strconv.uint64pow10" .u64 Lib.pow10Tab) :
    Calls Tryz.prog 65 #[.int .u64 u, .int .i64 10] w fun e w' => e = .returned (.string ⟨(Lib.decDigits u).toArray⟩) ∧ Below w.heap.size w w' := by
  by_cases hs : u < 100
  · have hb := Lib.hid (hs)
    go_enter Tryz.func65, Tryz.ntmps65
    go_wp2_with (go_at_call 85; go_must (refine (Tryz.internal_strconv_small u hb.out _).mono ?_; rintro e w' ⟨rfl, rfl⟩))
    go_ret
    exact ⟨rfl, Below.refl _ _⟩
  · have hu1 : 1 ≤ u := by omega
    have hnd20 : Lib.nDigits u ≤ 20 := by have := Lib.numDigits_eq u hu1 hu64; split at this <;> omega
    have hal : Tryz.prog.arrayLen 135 = 24 := by simp [Program.arrayLen, Tryz.underlying135]
    have hsl : ∀ W, (Instr.sliceAt 135 (.pointer (some ⟨w.heap.size, 0, none⟩)) none (some (.int .i64 (Lib.nDigits u : Int))) none).run Tryz.prog W = .ok (.slice (some ⟨w.heap.size, 0, none⟩) (Lib.nDigits u) 24) W := fun W => by
      rw [run_sliceAt_array_h W 135 ⟨w.heap.size, 0, none⟩ (by simp [Program.arrayLen, Program.elem, Tryz.underlying135]) .i64 (Lib.nDigits u : Int) (by omega) (by rw [hal]; omega)]
      go_simp
    have hH0 := Lib.holds_zero0 w 135 (Lib.nDigits u) (by omega)
    have hfmt := Tryz.internal_strconv_formatBase10 w.heap.size 0 24 u (Array.replicate (Lib.nDigits u) 0) (w.alloc (.cells Lib.zeros24 135)) hH0 (by rw [Array.size_replicate]; exact Lib.lt_pow_nDigits u) hu64 (by rw [Array.size_replicate]; omega)
    rw [Array.size_replicate] at hfmt
    have HH0 := Lib.hid hH0
    have HU := Lib.hid hu64
    have iu : (100 : Int) ≤ (u : Int) := by omega
    clear hH0 hal hu64
    go_enter Tryz.func65, Tryz.ntmps65
    go_wp2_with (go_at_call 86; go_must (refine (Tryz.internal_strconv_numDigits u hu1 HU.out _ (Lib.tabIs_alloc htab _)).mono ?_; rintro e w' ⟨rfl, rfl⟩))
    go_outline
    go_at_call 87
    refine hfmt.mono ?_
    rintro e w' ⟨rfl, k, v', dk, rfl, hF⟩
    have hcv : (convert 34 9 (.slice (some ⟨w.heap.size, 0, none⟩) (Lib.nDigits u) 24)).run Tryz.prog ((putRow (fun (b : UInt8) => Value.int .u8 (b.toNat : Int)) (w.alloc (.cells Lib.zeros24 135)) w.heap.size 0 dk).drewN k) = .ok (.string ⟨(Lib.decDigits u).toArray⟩) ((putRow (fun (b : UInt8) => Value.int .u8 (b.toNat : Int)) (w.alloc (.cells Lib.zeros24 135)) w.heap.size 0 dk).drewN k) := by
      have h := run_convert_bytes_back (P := Tryz.prog) ((putRow (fun (b : UInt8) => Value.int .u8 (b.toNat : Int)) (w.alloc (.cells Lib.zeros24 135)) w.heap.size 0 dk).drewN k) 34 9 5 ⟨w.heap.size, 0, none⟩ 24 (Lib.decDigits u) Tryz.underlying34 Tryz.underlying5 Tryz.underlying9 (fun j hj => by
        rw [Lib.row_is_numeral hF j hj, Lib.add_plain, World.cell?_drewN]
        exact cell?_putRow (fun (b : UInt8) => Value.int .u8 (b.toNat : Int)) _ w.heap.size 0 _ dk HH0.out (by rw [hF.size, Array.size_replicate]) j (by rw [hF.size]; rw [Lib.decDigits_length] at hj; exact hj))
      rw [Lib.decDigits_length] at h
      exact h
    go_wp2
    go_ret
    obtain ⟨os, eo⟩ := Lib.fin_at w (.cells Lib.zeros24 135) dk k 0
    refine ⟨rfl, ?_⟩
    rw [eo]
    exact Lib.below_grow w.heap.size w (Nat.le_refl _) k os

end Go.Proofs.YticfdfomlcohpaaGreatDoor.Dt3
