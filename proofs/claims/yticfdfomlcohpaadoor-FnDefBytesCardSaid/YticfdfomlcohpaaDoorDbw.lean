/- The walk of FnDefBytes. -/
import Derived.Test.YticfdfomlcohpaaDoorDb1
import Derived.Test.YticfdfomlcohpaaDoorDbp
namespace Go.Proofs.YticfdfomlcohpaaDoor.Dbw
open Go.RowKit Go.Proofs.YticfdfomlcohpaaDoorW.PrintWords Go.Proofs.YticfdfomlcohpaaDoorW.PrintLast Go.Proofs.YticfdfomlcohpaaDoorW.PrintMore
open Go.Proofs.YticfdfomlcohpaaDoor.Db

theorem form_any (t : Bool) (w : World) : Calls Tryd.prog 7 #[.bool t] w fun e w' => ∃ j : Int, e = .returned (.int .i64 j) ∧ w = w' := by
  cases t
  all_goals
    go_enter Tryd.func7, Tryd.ntmps7
    go_wp2
    go_ret
    exact ⟨_, rfl, rfl⟩

set_option maxHeartbeats 1000000 in
theorem law_big (b : ByteArray) (t : Bool) (w : World) (h : 2000 < b.size) :
    Calls Tryd.prog 3 #[.string b, .bool t] w fun e w' => e = .returned (.bool true) ∧ Below w.heap.size w w' := by
  by_cases h1 : 2147483647 < b.size
  all_goals
    go_enter Tryd.func3, Tryd.ntmps3
    go_wp2
    go_ret
    exact ⟨rfl, Below.refl _ _⟩

set_option maxHeartbeats 2000000 in
theorem law_small (b : ByteArray) (t : Bool) (w : World) (h : b.size ≤ 2000) :
    Calls Tryd.prog 3 #[.string b, .bool t] w fun e w' => e = .returned (.bool true) ∧ Below w.heap.size w w' := by
  have hlen : (bytesOf b).length ≤ 2000 := by rw [bytesOf_length]; exact h
  obtain ⟨r, hr⟩ : ∃ r, r = strOfNums (Dbp.escL (bytesOf b)) := ⟨_, rfl⟩
  have hm := Aside0.mk (Dbp.marsh_f (bytesOf b) hlen)
  have hc := Aside0.mk (Dbp.cesc_f (bytesOf b) hlen)
  have hseen := Aside0.mk (Dbp.out_seen b)
  rw [← hr] at hm hc hseen
  have hrs : r.size ≤ 8000 := by
    rw [hr, Dbp.strOfNums_size]
    exact Nat.le_trans (Dbp.escL_len _) (by omega)
  have kb := fun W => print_bytes (P := Tryd.prog) 9 29 5 Tryd.underlying9 Tryd.underlying29 Tryd.underlying5 b W
  clear hr hlen
  go_enter Tryd.func3, Tryd.ntmps3
  go_wp2_with (first
    | (go_at_call 7; go_must (refine (form_any _ _).mono ?_; rintro e w1 ⟨j, rfl, rfl⟩))
    | (go_at_call 6; go_must (refine (defmarshal12 b (by omega) _ r _ _ hm.out).mono ?_; rintro e w2 ⟨rfl, hb2⟩)))
  go_loop [6, 7] (fun o i => ∃ k : Nat, k ≤ r.size ∧ i = .int .i64 k ∧ o = .bool true) (fun _ i => r.size - (intOf i).toNat)
  case atStart => exact ⟨0, Nat.zero_le _, rfl, rfl⟩
  case round =>
    obtain ⟨k, hk, rfl, rfl⟩ := hrel
    by_cases hlt : k < r.size
    · have hs := hseen.out k (by omega) (by omega)
      have hb := bt_at r (k : Int) (by simpa using hlt)
      simp only [Int.toNat_natCast] at hb
      have hs1 : (32 : Int) ≤ (r[k].toNat : Int) := by rw [hb]; exact hs.1
      have hs2 : (r[k].toNat : Int) ≤ 126 := by rw [hb]; exact hs.2
      clear hs hb
      go_wp2
      go_round
      case rel => exact ⟨k + 1, by omega, by go_num, rfl⟩
      case measure => simp [intOf]; omega
    · have hC := fun W => C_int_of (bytes_reads W 5 b (by omega))
      go_wp2_with (go_at_call 8; go_must (rw [← bytesOf_length b]; refine (PCEscape.spec_CEscape.calls _ _ _ (bytesOf b) r _ (by rw [bytesOf_length]; exact hC _) (by rw [bytesOf_length]; exact grownCap_ge _ _ _ _) hc.out).mono ?_; rintro e w3 ⟨rfl, hb3⟩))
      go_ret
      exact ⟨rfl, hb2.trans (((bytes_below (Below.refl _ _) (Nat.le_refl _) _ _).trans (hb3.mono (by rw [Lib.bytesWorld_size]; omega))).mono hb2.size)⟩

theorem law (b : ByteArray) (t : Bool) (w : World) :
    Calls Tryd.prog 3 #[.string b, .bool t] w fun e w' => e = .returned (.bool true) ∧ Below w.heap.size w w' := by
  by_cases h : b.size ≤ 2000
  · exact law_small b t w h
  · exact law_big b t w (by omega)

end Go.Proofs.YticfdfomlcohpaaDoor.Dbw
