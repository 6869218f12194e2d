/- The walks of Marshal and DefText at each kind but floats: the text that a default value has. Condition for whole numbers: the table uint64pow10 reads as laid. -/
import Derived.Test.YticfdfomlcohpaaGreatDoorDt5
namespace Go.Proofs.YticfdfomlcohpaaGreatDoor.Dt6
open Go.RowKit Go.Proofs.YticfdfomlcohpaaGreatDoorW.PrintWords Go.Proofs.YticfdfomlcohpaaGreatDoorW.PrintLast Go.Proofs.YticfdfomlcohpaaGreatDoorW.PrintMore
open Go.Proofs.YticfdfomlcohpaaGreatDoor.Db Go.Proofs.YticfdfomlcohpaaGreatDoor.Dt Go.Proofs.YticfdfomlcohpaaGreatDoor.Dt4 Go.Proofs.YticfdfomlcohpaaGreatDoor.Dt5

def i64str (m : Int) : ByteArray := ⟨(Lib.itoa m).toArray⟩
def u64str (m : Int) : ByteArray := ⟨(Lib.decDigits m.toNat).toArray⟩
def word (b tag : Bool) : ByteArray := if tag = true then (if b = true then ⟨#[49]⟩ else ⟨#[48]⟩) else (if b = true then ⟨#[116, 114, 117, 101]⟩ else ⟨#[102, 97, 108, 115, 101]⟩)
theorem fint (m : Int) (h0 : -9223372036854775808 ≤ m) (h1 : m ≤ 9223372036854775807) (w : World) (ht : Tab w) :
    Calls Tryz.prog 31 #[.int .i64 m, .int .i64 10] w fun e w' => e = .returned (.string (i64str m)) ∧ Below w.heap.size w w' :=
  (Tryz.strconv_FormatInt_10 m h0 h1 w ht).mono fun _ _ ⟨he, k, os, hw⟩ => ⟨he, hw ▸ Lib.below_grow w.heap.size w (Nat.le_refl _) k os⟩
theorem fuint (m : Int) (h0 : 0 ≤ m) (h1 : m < 18446744073709551616) (w : World) (ht : Tab w) :
    Calls Tryz.prog 34 #[.int .u64 m, .int .i64 10] w fun e w' => e = .returned (.string (u64str m)) ∧ Below w.heap.size w w' := by
  obtain ⟨u, rfl⟩ := Int.eq_ofNat_of_zero_le h0
  have hc := Aside0.mk (Dt3.fmtu u (by omega) w ht)
  have e : u64str (u : Int) = ⟨(Lib.decDigits u).toArray⟩ := by simp [u64str]
  rw [e]
  clear e h0 h1
  obtain ⟨R, hR⟩ : ∃ R : ByteArray, R = ⟨(Lib.decDigits u).toArray⟩ := ⟨_, rfl⟩
  rw [← hR] at hc ⊢
  clear hR
  go_enter Tryz.func34, Tryz.ntmps34
  go_wp2_with (go_at_call 65; go_must (refine hc.out.mono ?_; rintro e w1 ⟨rfl, hb⟩))
  go_ret
  exact ⟨rfl, hb⟩

set_option maxHeartbeats 2000000 in
theorem mar_int (j : Int) (hj : j = 5 ∨ j = 17 ∨ j = 15 ∨ j = 3 ∨ j = 18 ∨ j = 16) (t : Int) (h2 : t = 2 ∨ t = 3) (m : Int) (h0 : -9223372036854775808 ≤ m) (h1 : m ≤ 9223372036854775807) (ev : Value) (f : Int) (w : World) (ht : Tab w) :
    Calls Tryz.prog 23 #[VV t (IntKind.u64.wrap m) es, ev, .int .i8 j, .int .i64 f] w fun e w' => e = .returned (.tuple #[.string (i64str m), .nilIface]) ∧ Below w.heap.size w w' := by
  have hw1 : wrap64 (IntKind.u64.wrap m) = m := by rw [IntKind.wrap_u64]; unfold wrap64; omega
  have hF := Aside0.mk (fun w => fint m h0 h1 w)
  have HT := Aside0.mk ht
  clear h0 h1 ht
  rcases h2 with rfl | rfl
  all_goals
    rcases hj with rfl | rfl | rfl | rfl | rfl | rfl
  all_goals
    go_enter Tryz.func23, Tryz.ntmps23
    go_wp2_with (first | (go_at_call 31; go_must (refine (hF.out _ (HT.out.on (below_alloc (below_alloc (Below.refl _ _) _) _))).mono ?_; rintro e w1 ⟨rfl, hb⟩)) | go_in)
    go_ret2
    exact ⟨rfl, (below_alloc (below_alloc (Below.refl _ _) _) _).trans (hb.mono (by simp; omega))⟩

set_option maxHeartbeats 2000000 in
theorem mar_uint (j : Int) (hj : j = 13 ∨ j = 7 ∨ j = 4 ∨ j = 6) (t : Int) (h2 : t = 4 ∨ t = 5) (m : Int) (h0 : 0 ≤ m) (h1 : m < 18446744073709551616) (ev : Value) (f : Int) (w : World) (ht : Tab w) :
    Calls Tryz.prog 23 #[VV t m es, ev, .int .i8 j, .int .i64 f] w fun e w' => e = .returned (.tuple #[.string (u64str m), .nilIface]) ∧ Below w.heap.size w w' := by
  have hF := Aside0.mk (fun w => fuint m h0 h1 w)
  have HT := Aside0.mk ht
  clear h0 h1 ht
  rcases h2 with rfl | rfl
  all_goals
    rcases hj with rfl | rfl | rfl | rfl
  all_goals
    go_enter Tryz.func23, Tryz.ntmps23
    go_wp2_with (first | (go_at_call 34; go_must (refine (hF.out _ (HT.out.on (below_alloc (below_alloc (Below.refl _ _) _) _))).mono ?_; rintro e w1 ⟨rfl, hb⟩)) | go_in)
    go_ret2
    exact ⟨rfl, (below_alloc (below_alloc (Below.refl _ _) _) _).trans (hb.mono (by simp; omega))⟩

set_option maxHeartbeats 2000000 in
theorem mar_bool (j : Int) (hj : j = 8) (b tag : Bool) (ev : Value) (w : World) :
    Calls Tryz.prog 23 #[VV 1 (bn b) es, ev, .int .i8 j, .int .i64 (if tag = true then 2 else 1)] w fun e w' => e = .returned (.tuple #[.string (word b tag), .nilIface]) ∧ Below w.heap.size w w' := by
  cases b <;> cases tag
  all_goals simp only [bn, word, if_true, if_false, Bool.false_eq_true]
  all_goals
    subst hj
  all_goals
    go_enter Tryz.func23, Tryz.ntmps23
    go_wp2
    go_ret2
    exact ⟨rfl, below_alloc (below_alloc (Below.refl _ _) _) _⟩

set_option maxHeartbeats 2000000 in
theorem mar_str (j : Int) (hj : j = 9) (s : ByteArray) (ev : Value) (f : Int) (w : World) :
    Calls Tryz.prog 23 #[VV 8 0 s, ev, .int .i8 j, .int .i64 f] w fun e w' => e = .returned (.tuple #[.string s, .nilIface]) ∧ Below w.heap.size w w' := by
  subst hj
  all_goals
    go_enter Tryz.func23, Tryz.ntmps23
    go_wp2
    go_ret2
    exact ⟨rfl, by repeat (first | exact Below.refl _ _ | apply below_alloc)⟩

set_option maxHeartbeats 2000000 in
theorem txt_int (j : Int) (hj : j = 5 ∨ j = 15 ∨ j = 17 ∨ j = 3 ∨ j = 16 ∨ j = 18) (f : Int) (B : Bool) (n U F : Int) (S : ByteArray) (h0 : -9223372036854775808 ≤ n) (h1 : n ≤ 9223372036854775807) (w : World) :
    Calls Tryz.prog 7 #[.int .i64 j, .int .i64 f, .bool B, .int .i64 n, .int .u64 U, .int .u64 F, .string S, .string es] w fun e w' => e = .returned (.tuple #[.string (i64str n), .int .i64 1]) ∧ Below w.heap.size w w' := by
  have hF := Aside0.mk (fun w => Dt2.whole_any n h0 h1 w)
  clear h0 h1
  rcases hj with rfl | rfl | rfl | rfl | rfl | rfl
  all_goals
    go_enter Tryz.func7, Tryz.ntmps7
    go_wp2_with (go_at_call 17; go_must (refine (hF.out _).mono ?_; rintro e w1 ⟨rfl, m, rfl⟩))
    go_ret2
    exact ⟨rfl, pw_below_drewN (Below.refl _ _) _⟩

set_option maxHeartbeats 2000000 in
theorem txt_uint (j : Int) (hj : j = 13 ∨ j = 7 ∨ j = 4 ∨ j = 6) (f : Int) (B : Bool) (n U F : Int) (S : ByteArray) (h0 : 0 ≤ U) (h1 : U < 18446744073709551616) (w : World) :
    Calls Tryz.prog 7 #[.int .i64 j, .int .i64 f, .bool B, .int .i64 n, .int .u64 U, .int .u64 F, .string S, .string es] w fun e w' => e = .returned (.tuple #[.string (u64str U), .int .i64 1]) ∧ Below w.heap.size w w' := by
  have hF := Aside0.mk (fun w => Dt2.count_int U (u64str U) h0 h1 rfl w)
  clear h0 h1
  rcases hj with rfl | rfl | rfl | rfl
  all_goals
    go_enter Tryz.func7, Tryz.ntmps7
    go_wp2_with (go_at_call 18; go_must (refine (hF.out _).mono ?_; rintro e w1 ⟨rfl, m, rfl⟩))
    go_ret2
    exact ⟨rfl, pw_below_drewN (Below.refl _ _) _⟩

set_option maxHeartbeats 2000000 in
theorem txt_bool (j : Int) (hj : j = 8) (tag B : Bool) (n U F : Int) (S : ByteArray) (w : World) :
    Calls Tryz.prog 7 #[.int .i64 j, .int .i64 (if tag = true then 2 else 1), .bool B, .int .i64 n, .int .u64 U, .int .u64 F, .string S, .string es] w fun e w' => e = .returned (.tuple #[.string (word B tag), .int .i64 1]) ∧ Below w.heap.size w w' := by
  cases B <;> cases tag
  all_goals simp only [word, if_true, if_false, Bool.false_eq_true]
  all_goals
    subst hj
  all_goals
    go_enter Tryz.func7, Tryz.ntmps7
    go_wp2
    go_ret2
    exact ⟨rfl, by repeat (first | exact Below.refl _ _ | apply below_alloc)⟩

set_option maxHeartbeats 2000000 in
theorem txt_str (j : Int) (hj : j = 9) (f : Int) (B : Bool) (n U F : Int) (S : ByteArray) (w : World) :
    Calls Tryz.prog 7 #[.int .i64 j, .int .i64 f, .bool B, .int .i64 n, .int .u64 U, .int .u64 F, .string S, .string es] w fun e w' => e = .returned (.tuple #[.string S, .int .i64 1]) ∧ Below w.heap.size w w' := by
  subst hj
  all_goals
    go_enter Tryz.func7, Tryz.ntmps7
    go_wp2
    go_ret2
    exact ⟨rfl, Below.refl _ _⟩

set_option maxHeartbeats 2000000 in
theorem txt_bytes (j : Int) (hj : j = 12) (f : Int) (B : Bool) (n U F : Int) (S : ByteArray) (r : ByteArray) (k : Nat) (hS : S.size ≤ 2000) (hc : PCEscape.spec_CEscape.f k (bytesOf S) = some r) (w : World) :
    Calls Tryz.prog 7 #[.int .i64 j, .int .i64 f, .bool B, .int .i64 n, .int .u64 U, .int .u64 F, .string S, .string es] w fun e w' => e = .returned (.tuple #[.string r, .int .i64 1]) ∧ Below w.heap.size w w' := by
  have hC := fun W => C_int_of (bytes_reads W 5 S (by omega))
  have kb := fun W => print_bytes (P := Tryz.prog) 9 34 5 Tryz.underlying9 Tryz.underlying34 Tryz.underlying5 S W
  have HC := Aside0.mk hc
  clear hc
  subst hj
  all_goals
    go_enter Tryz.func7, Tryz.ntmps7
    go_wp2_with (go_at_call 20; go_must (rw [← bytesOf_length S]; refine (PCEscape.spec_CEscape.calls _ _ _ (bytesOf S) r _ (by rw [bytesOf_length]; exact hC _) (by rw [bytesOf_length]; exact grownCap_ge _ _ _ _) HC.out).mono ?_; rintro e w3 ⟨rfl, hb3⟩))
    go_ret2
    exact ⟨rfl, (bytes_below (Below.refl _ _) (Nat.le_refl _) _ _).trans (hb3.mono (by rw [Lib.bytesWorld_size]; omega))⟩

end Go.Proofs.YticfdfomlcohpaaGreatDoor.Dt6
