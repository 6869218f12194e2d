/- The walks of ftoa64 and ftoa32 with 'g' and -1, at numbers that are not zero. Conditions: the tables pow10Tab and uint64pow10 read as laid; the row that is appended to is the call's own. -/
import Derived.Test.YtdggjpdhbailpaaDoorZFt0
import Derived.Test.YtdggjpdhbailpaaDoorZGEfg
import Derived.Test.YtdggjpdhbailpaaDoorZGTb
import Derived.Test.YtdggjpdhbailpaaDoorZDb0
import Derived.Outline
import Derived.Deep.DeepMust
namespace Go.Proofs.YtdggjpdhbailpaaDoor.Ft1
open Go.RowKit Go.Proofs.YtdggjpdhbailpaaDoorW.PrintWords Go.Proofs.YtdggjpdhbailpaaDoorW.PrintLast Go.Proofs.YtdggjpdhbailpaaDoorW.PrintMore Go.Proofs.YtdggjpdhbailpaaDoor.Sf1 Go.Proofs.YtdggjpdhbailpaaDoor.Sf2 Go.Proofs.YtdggjpdhbailpaaDoor.Sf3 Go.Proofs.YtdggjpdhbailpaaDoor.Sd1 Go.Proofs.YtdggjpdhbailpaaDoor.Efp Go.Proofs.YtdggjpdhbailpaaDoor.PFnTextAscii
set_option linter.unusedSectionVars false
set_option linter.unusedVariables false
variable [γ_ : Gho]

theorem f64b (b : Nat) (W : World) : (callFunc 102 #[.float .f64 b]).run Tryd.prog W = .ok (.value (.int .u64 b)) W := by kernel_rfl

/-- The row of digits reads as it was laid, as long as nothing but older blocks is written. -/
theorem buf_reads {d b : Nat} {t : TypeId} {w3 W : World} {P0 : Nat → Prop} (hz : w3.heap[b]? = some (.cells (bufCells d) t (0, 0))) (hP : ∀ k, P0 k → k < b) (hk : Kept w3 W (fun k_ => P0 k_)) : Kd.C (Kd.int .u8) W (some ⟨b, 0, none⟩) 32 (bufOf d) := by
  have hlt : b < w3.heap.size := by
    rcases Nat.lt_or_ge b w3.heap.size with h | h
    · exact h
    · rw [Array.getElem?_eq_none h] at hz; cases hz
  have hz2 := (hk.2 b hlt (fun h => absurd (hP b h) (Nat.lt_irrefl b))).trans hz
  refine Db.C_int_of ⟨by simp [bufOf], by decide, fun _ => ⟨_, rfl, fun j hj => ?_⟩⟩
  rw [add_plain, blk_cell hz2, bufCells_at d j hj]
  simp [bufOf, hj]


theorem f32b (b : Nat) (W : World) : (callFunc 101 #[.float .f32 b]).run Tryd.prog W = .ok (.value (.int .u32 b)) W := by kernel_rfl

set_option maxHeartbeats 2000000 in
set_option maxRecDepth 100000 in
/-- A number that is neither zero nor an infinity nor none, below the normal ones: the exponent's bits are zero. -/
theorem sub64 (n : Nat) (M : Nat) (s : Nat) (d : Nat) (p : Int) (neg : Bool) (r : List Int) (k : Nat)
    (hneg : ((n : Int) / 9223372036854775808 != 0) = neg) (hex : Go.bits .and .i64 (wrap64 ((n : Int) / 4503599627370496)) 2047 = 0) (hmt : Go.bits .and .u64 (n : Int) 4503599627370495 = (M : Int))
    (hM : 1 ≤ M) (hM2 : M < 4503599627370496) (hs : s = 64 - Lib.bitLen M) (s0 : 11 ≤ s) (s1 : s ≤ 63) (hm : M * 2 ^ s < 18446744073709551616)
    (d0 : 1 ≤ d) (d1 : d < 18446744073709551616) (p0 : -400 ≤ p) (p1 : p ≤ 400)
    (hsf : ∀ w, Pow w → Calls Tryd.prog 112 #[.int .u64 ((M * 2 ^ s : Nat) : Int), .int .i64 (-1022 - s - 52)] w fun en w' => en = .returned (.tuple #[.int .u64 d, .int .i64 p]) ∧ Below w.heap.size w w')
    (P0 : Nat → Prop) (v : Value) (l : List Int) (hf : Efgd.strconv_fmtEFG.f k l neg (bufOf d) (Lib.nDigits d + p) (strip d (Lib.nDigits d)) (strip d (Lib.nDigits d)) 103 true = some (l ++ r))
    (w0 w : World) (hB : Below w0.heap.size w0 w) (ho : Kd.G (Kd.int .u8) 5 w w0.heap.size P0 v l) (hP : ∀ k, P0 k → k < w.heap.size) (hT : Pow w) (hT2 : Tab w) :
    Calls Tryd.prog 87 #[v, .float .f64 n, .int .u8 103, .int .i64 (-1)] w fun e w' => ∃ v', e = .returned v' ∧ Kd.G (Kd.int .u8) 5 w' w0.heap.size (fun k => P0 k ∨ w.heap.size ≤ k) v' (l ++ r) ∧ Below w0.heap.size w0 w' ∧ Kept w w' P0 := by
  have hb := f64b
  have n1 : IntKind.i64.wrap (64 - (Lib.bitLen M : Int)) = (s : Int) := by rw [IntKind.wrap_i64]; omega
  obtain ⟨mm, hmm⟩ : ∃ mm : Int, mm = ((M * 2 ^ s : Nat) : Int) := ⟨_, rfl⟩
  have n2 : IntKind.u64.wrap ((M : Int) * 2 ^ s) = mm := by
    have e : ((M * 2 ^ s : Nat) : Int) = (M : Int) * 2 ^ s := by rw [Int.natCast_mul, Int.natCast_pow]; rfl
    rw [hmm, ← e]
    exact uw _ (by omega) (by omega)
  rw [← hmm] at hsf
  have n3 : IntKind.i64.wrap (-1022 - (s : Int)) = -1022 - s := by rw [IntKind.wrap_i64]; omega
  have n4 : IntKind.i64.wrap (-1022 - (s : Int) - 52) = -1022 - s - 52 := by rw [IntKind.wrap_i64]; omega
  have hMne : ((M : Int) == 0) = false := beq_eq_false_iff_ne.mpr (by omega)
  have HE : Aside0 (∀ w3, Below w0.heap.size w0 w3 → Kd.G (Kd.int .u8) 5 w3 w0.heap.size P0 v l → (∀ W_, Kept w3 W_ (fun k_ => P0 k_) → Kd.C (Kd.int .u8) W_ (some ⟨w.heap.size, 0, none⟩) 32 (bufOf d)) →
      Calls Tryd.prog 105 #[v, .bool neg, .slice (some ⟨w.heap.size, 0, none⟩) 32 32, .int .i64 (Lib.nDigits d + p), .int .i64 (strip d (Lib.nDigits d)), .int .i64 (strip d (Lib.nDigits d)), .int .u8 103, .bool true] w3
        fun e w' => ∃ v0_ : Value, e = .returned v0_ ∧ Kd.G (Kd.int .u8) 5 w' w0.heap.size (fun k_ => (P0 k_ ∨ w3.heap.size ≤ k_)) v0_ (l ++ r) ∧ Below w0.heap.size w0 w' ∧ Kept w3 w' (fun k_ => P0 k_)) := Aside0.mk (by
    have hl : (bufOf d).length = 32 := by simp [bufOf]
    intro w3 a b c
    have h := Efg.strconv_fmtEFG.calls k P0 v l neg (some ⟨w.heap.size, 0, none⟩) 32 (bufOf d) _ _ _ 103 true (l ++ r) w0 w3 a b (by rw [hl]; exact c) (by omega) hf
    rw [hl] at h
    exact h)
  have HSF := Aside0.mk hsf
  have HX := Aside0.mk (And.intro hM (And.intro hM2 (And.intro hm (And.intro d0 d1))))
  have HF := Aside0.mk hf
  have HS := Aside0.mk hs
  have HO := Aside0.mk ho
  have HT := Aside0.mk (And.intro hT hT2)
  have HP := Aside0.mk hP
  have HB := Aside0.mk hB
  clear hM hM2 hm hmm d0 d1 hsf hf hs ho hT hT2 hP hB
  go_enter Tryd.func87, Tryd.ntmps87
  go_wp2_with (fail)
  go_quiet (fail)
  go_wp2_with (first
    | (go_at_call 97; go_must (refine (Tryd.bits_Len64 (M : Int) _ ?h0 ?h1).mono ?_; (case h0 => omega); (case h1 => have := HX.out; omega); rintro en w1 ⟨rfl, rfl⟩))
    | (go_at_call 112; go_must (refine (HSF.out _ ?h0).mono ?_; (case h0 => exact HT.out.1.on (by repeat (first | (with_reducible exact Below.refl _ _) | apply below_alloc | apply pw_below_drewN | apply below_drew1))); rintro en w1 ⟨rfl, hb1⟩)))
  have hz1 : w1.heap[w.heap.size]? = some (.cells (Array.replicate 32 (.int .u8 0)) 157 (0, 0)) := by
    rw [hb1.block _ (by simp)]
    refine (heap_alloc_new _ _).trans ?_
    rfl
  have hB1 : Below w.heap.size w w1 := by
    refine Below.trans ?_ (hb1.mono (by simp))
    repeat (first | (with_reducible exact Below.refl _ _) | apply below_alloc | apply pw_below_drewN | apply below_drew1)
  have HB1 := Aside0.mk hB1
  have HZ1 := Aside0.mk hz1
  clear hb1 hB1 hz1
  go_region_with (first
    | (go_at_call 83; go_must (refine (Tryd.internal_strconv_numDigits d ?h0 ?h1 _ ?h2).mono ?_; (case h0 => have := HX.out; omega); (case h1 => have := HX.out; omega); (case h2 => exact (HT.out.2.on HB1.out).on (by repeat (first | (with_reducible exact Below.refl _ _) | apply below_alloc | apply pw_below_drewN | apply below_drew1))); rintro en w2 ⟨rfl, rfl⟩))
    | (go_at_call 107; go_must (refine (setd w.heap.size d 157 p ?h0 ?h1 ?h2 _ ?h3).mono ?_; (case h0 => have := HX.out; omega); (case h1 => omega); (case h2 => omega); (case h3 => exact HZ1.out); rintro en w3 ⟨rfl, hz3, hb3, hk3⟩)))
  have hB3 : Below w.heap.size w w3 := by
    refine Below.trans HB1.out (Below.trans ?_ hb3)
    repeat (first | (with_reducible exact Below.refl _ _) | apply below_alloc | apply pw_below_drewN | apply below_drew1)
  have HB3 := Aside0.mk hB3
  have HZ3 := Aside0.mk hz3
  clear hb3 hk3 hz3 hB3
  go_wp2_with (first
    | (go_at_call 105; go_must (refine (HE.out _ ?h0 ?h1 ?h2).mono ?_; (case h0 => exact HB.out.trans (HB3.out.mono HB.out.size)); (case h1 => exact Kd.G_below HO.out HB3.out); (case h2 => exact fun W_ hk => buf_reads HZ3.out HP.out hk); rintro en w4 ⟨v', rfl, hR, hB4, hK4⟩)))
  go_ret
  exact ⟨v', rfl, Kd.G_mono hR (fun k hk => hk.imp id (fun h => Nat.le_trans HB3.out.size h)), hB4, (Kept.of_below HB3.out P0).then_ hK4 (fun _ h => .inl h)⟩


set_option maxHeartbeats 2000000 in
set_option maxRecDepth 100000 in
/-- A number that is neither zero nor an infinity nor none, of the normal ones. -/
theorem norm64 (M : Nat) (ex mt E : Int) (hE : ex + -1023 = E) (he0 : 1 ≤ ex) (he1 : ex ≤ 2046) (hor : Go.bits .or .u64 mt 4503599627370496 = (M : Int)) (n : Nat) (s : Nat) (d : Nat) (p : Int) (neg : Bool) (r : List Int) (k : Nat)
    (hneg : ((n : Int) / 9223372036854775808 != 0) = neg) (hex : Go.bits .and .i64 (wrap64 ((n : Int) / 4503599627370496)) 2047 = ex) (hmt : Go.bits .and .u64 (n : Int) 4503599627370495 = mt)
    (hM : 1 ≤ M) (hM2 : M < 9007199254740992) (hs : s = 64 - Lib.bitLen M) (s0 : 11 ≤ s) (s1 : s ≤ 63) (hm : M * 2 ^ s < 18446744073709551616)
    (d0 : 1 ≤ d) (d1 : d < 18446744073709551616) (p0 : -400 ≤ p) (p1 : p ≤ 400)
    (hsf : ∀ w, Pow w → Calls Tryd.prog 112 #[.int .u64 ((M * 2 ^ s : Nat) : Int), .int .i64 (E - s - 52)] w fun en w' => en = .returned (.tuple #[.int .u64 d, .int .i64 p]) ∧ Below w.heap.size w w')
    (P0 : Nat → Prop) (v : Value) (l : List Int) (hf : Efgd.strconv_fmtEFG.f k l neg (bufOf d) (Lib.nDigits d + p) (strip d (Lib.nDigits d)) (strip d (Lib.nDigits d)) 103 true = some (l ++ r))
    (w0 w : World) (hB : Below w0.heap.size w0 w) (ho : Kd.G (Kd.int .u8) 5 w w0.heap.size P0 v l) (hP : ∀ k, P0 k → k < w.heap.size) (hT : Pow w) (hT2 : Tab w) :
    Calls Tryd.prog 87 #[v, .float .f64 n, .int .u8 103, .int .i64 (-1)] w fun e w' => ∃ v', e = .returned v' ∧ Kd.G (Kd.int .u8) 5 w' w0.heap.size (fun k => P0 k ∨ w.heap.size ≤ k) v' (l ++ r) ∧ Below w0.heap.size w0 w' ∧ Kept w w' P0 := by
  have hb := f64b
  have n1 : IntKind.i64.wrap (64 - (Lib.bitLen M : Int)) = (s : Int) := by rw [IntKind.wrap_i64]; omega
  obtain ⟨mm, hmm⟩ : ∃ mm : Int, mm = ((M * 2 ^ s : Nat) : Int) := ⟨_, rfl⟩
  have n2 : IntKind.u64.wrap ((M : Int) * 2 ^ s) = mm := by
    have e : ((M * 2 ^ s : Nat) : Int) = (M : Int) * 2 ^ s := by rw [Int.natCast_mul, Int.natCast_pow]; rfl
    rw [hmm, ← e]
    exact uw _ (by omega) (by omega)
  rw [← hmm] at hsf
  have n3 : IntKind.i64.wrap (E - (s : Int)) = E - s := by rw [IntKind.wrap_i64]; omega
  have n4 : IntKind.i64.wrap (E - (s : Int) - 52) = E - s - 52 := by rw [IntKind.wrap_i64]; omega
  have hx0 : (ex == 0) = false := beq_eq_false_iff_ne.mpr (by omega)
  have hx1 : (ex == 2047) = false := beq_eq_false_iff_ne.mpr (by omega)
  have hx2 : IntKind.i64.wrap (ex + -1023) = E := by rw [IntKind.wrap_i64]; omega
  have hMne : ((M : Int) == 0) = false := beq_eq_false_iff_ne.mpr (by omega)
  have HE : Aside0 (∀ w3, Below w0.heap.size w0 w3 → Kd.G (Kd.int .u8) 5 w3 w0.heap.size P0 v l → (∀ W_, Kept w3 W_ (fun k_ => P0 k_) → Kd.C (Kd.int .u8) W_ (some ⟨w.heap.size, 0, none⟩) 32 (bufOf d)) →
      Calls Tryd.prog 105 #[v, .bool neg, .slice (some ⟨w.heap.size, 0, none⟩) 32 32, .int .i64 (Lib.nDigits d + p), .int .i64 (strip d (Lib.nDigits d)), .int .i64 (strip d (Lib.nDigits d)), .int .u8 103, .bool true] w3
        fun e w' => ∃ v0_ : Value, e = .returned v0_ ∧ Kd.G (Kd.int .u8) 5 w' w0.heap.size (fun k_ => (P0 k_ ∨ w3.heap.size ≤ k_)) v0_ (l ++ r) ∧ Below w0.heap.size w0 w' ∧ Kept w3 w' (fun k_ => P0 k_)) := Aside0.mk (by
    have hl : (bufOf d).length = 32 := by simp [bufOf]
    intro w3 a b c
    have h := Efg.strconv_fmtEFG.calls k P0 v l neg (some ⟨w.heap.size, 0, none⟩) 32 (bufOf d) _ _ _ 103 true (l ++ r) w0 w3 a b (by rw [hl]; exact c) (by omega) hf
    rw [hl] at h
    exact h)
  have HSF := Aside0.mk hsf
  have HX := Aside0.mk (And.intro hM (And.intro hM2 (And.intro hm (And.intro d0 d1))))
  have HF := Aside0.mk hf
  have HS := Aside0.mk hs
  have HO := Aside0.mk ho
  have HT := Aside0.mk (And.intro hT hT2)
  have HP := Aside0.mk hP
  have HB := Aside0.mk hB
  clear hE he0 he1 hM hM2 hm hmm d0 d1 hsf hf hs ho hT hT2 hP hB
  go_enter Tryd.func87, Tryd.ntmps87
  go_wp2_with (fail)
  go_quiet (fail)
  go_wp2_with (first
    | (go_at_call 97; go_must (refine (Tryd.bits_Len64 (M : Int) _ ?h0 ?h1).mono ?_; (case h0 => omega); (case h1 => have := HX.out; omega); rintro en w1 ⟨rfl, rfl⟩))
    | (go_at_call 112; go_must (refine (HSF.out _ ?h0).mono ?_; (case h0 => exact HT.out.1.on (by repeat (first | (with_reducible exact Below.refl _ _) | apply below_alloc | apply pw_below_drewN | apply below_drew1))); rintro en w1 ⟨rfl, hb1⟩)))
  have hz1 : w1.heap[w.heap.size]? = some (.cells (Array.replicate 32 (.int .u8 0)) 157 (0, 0)) := by
    rw [hb1.block _ (by simp)]
    refine (heap_alloc_new _ _).trans ?_
    rfl
  have hB1 : Below w.heap.size w w1 := by
    refine Below.trans ?_ (hb1.mono (by simp))
    repeat (first | (with_reducible exact Below.refl _ _) | apply below_alloc | apply pw_below_drewN | apply below_drew1)
  have HB1 := Aside0.mk hB1
  have HZ1 := Aside0.mk hz1
  clear hb1 hB1 hz1
  go_region_with (first
    | (go_at_call 83; go_must (refine (Tryd.internal_strconv_numDigits d ?h0 ?h1 _ ?h2).mono ?_; (case h0 => have := HX.out; omega); (case h1 => have := HX.out; omega); (case h2 => exact (HT.out.2.on HB1.out).on (by repeat (first | (with_reducible exact Below.refl _ _) | apply below_alloc | apply pw_below_drewN | apply below_drew1))); rintro en w2 ⟨rfl, rfl⟩))
    | (go_at_call 107; go_must (refine (setd w.heap.size d 157 p ?h0 ?h1 ?h2 _ ?h3).mono ?_; (case h0 => have := HX.out; omega); (case h1 => omega); (case h2 => omega); (case h3 => exact HZ1.out); rintro en w3 ⟨rfl, hz3, hb3, hk3⟩)))
  have hB3 : Below w.heap.size w w3 := by
    refine Below.trans HB1.out (Below.trans ?_ hb3)
    repeat (first | (with_reducible exact Below.refl _ _) | apply below_alloc | apply pw_below_drewN | apply below_drew1)
  have HB3 := Aside0.mk hB3
  have HZ3 := Aside0.mk hz3
  clear hb3 hk3 hz3 hB3
  go_wp2_with (first
    | (go_at_call 105; go_must (refine (HE.out _ ?h0 ?h1 ?h2).mono ?_; (case h0 => exact HB.out.trans (HB3.out.mono HB.out.size)); (case h1 => exact Kd.G_below HO.out HB3.out); (case h2 => exact fun W_ hk => buf_reads HZ3.out HP.out hk); rintro en w4 ⟨v', rfl, hR, hB4, hK4⟩)))
  go_ret
  exact ⟨v', rfl, Kd.G_mono hR (fun k hk => hk.imp id (fun h => Nat.le_trans HB3.out.size h)), hB4, (Kept.of_below HB3.out P0).then_ hK4 (fun _ h => .inl h)⟩


set_option maxHeartbeats 2000000 in
set_option maxRecDepth 100000 in
/-- A number that is neither zero nor an infinity nor none, below the normal ones: the exponent's bits are zero. -/
theorem sub32 (n : Nat) (M : Nat) (s : Nat) (hn32 : n < 4294967296) (d : Nat) (p : Int) (neg : Bool) (r : List Int) (k : Nat)
    (hneg : ((n : Int) / 2147483648 != 0) = neg) (hex : Go.bits .and .i64 (wrap64 ((n : Int) / 8388608)) 255 = 0) (hmt : Go.bits .and .u64 (n : Int) 8388607 = (M : Int))
    (hM : 1 ≤ M) (hM2 : M < 8388608) (hs : s = 64 - Lib.bitLen M) (s0 : 40 ≤ s) (s1 : s ≤ 63) (hm : M * 2 ^ s < 18446744073709551616)
    (d0 : 1 ≤ d) (d1 : d < 18446744073709551616) (p0 : -400 ≤ p) (p1 : p ≤ 400)
    (hsf : ∀ w, Pow w → Calls Tryd.prog 106 #[.int .u64 ((M * 2 ^ s : Nat) : Int), .int .i64 (-126 - s - 23)] w fun en w' => en = .returned (.tuple #[.int .u64 d, .int .i64 p]) ∧ Below w.heap.size w w')
    (P0 : Nat → Prop) (v : Value) (l : List Int) (hf : Efgd.strconv_fmtEFG.f k l neg (bufOf d) (Lib.nDigits d + p) (strip d (Lib.nDigits d)) (strip d (Lib.nDigits d)) 103 true = some (l ++ r))
    (w0 w : World) (hB : Below w0.heap.size w0 w) (ho : Kd.G (Kd.int .u8) 5 w w0.heap.size P0 v l) (hP : ∀ k, P0 k → k < w.heap.size) (hT : Pow w) (hT2 : Tab w) :
    Calls Tryd.prog 86 #[v, .float .f32 n, .int .u8 103, .int .i64 (-1)] w fun e w' => ∃ v', e = .returned v' ∧ Kd.G (Kd.int .u8) 5 w' w0.heap.size (fun k => P0 k ∨ w.heap.size ≤ k) v' (l ++ r) ∧ Below w0.heap.size w0 w' ∧ Kept w w' P0 := by
  have hb := f32b
  have hu := Aside0.mk hn32
  have n1 : IntKind.i64.wrap (64 - (Lib.bitLen M : Int)) = (s : Int) := by rw [IntKind.wrap_i64]; omega
  obtain ⟨mm, hmm⟩ : ∃ mm : Int, mm = ((M * 2 ^ s : Nat) : Int) := ⟨_, rfl⟩
  have n2 : IntKind.u64.wrap ((M : Int) * 2 ^ s) = mm := by
    have e : ((M * 2 ^ s : Nat) : Int) = (M : Int) * 2 ^ s := by rw [Int.natCast_mul, Int.natCast_pow]; rfl
    rw [hmm, ← e]
    exact uw _ (by omega) (by omega)
  rw [← hmm] at hsf
  have n3 : IntKind.i64.wrap (-126 - (s : Int)) = -126 - s := by rw [IntKind.wrap_i64]; omega
  have n4 : IntKind.i64.wrap (-126 - (s : Int) - 23) = -126 - s - 23 := by rw [IntKind.wrap_i64]; omega
  have hMne : ((M : Int) == 0) = false := beq_eq_false_iff_ne.mpr (by omega)
  have HE : Aside0 (∀ w3, Below w0.heap.size w0 w3 → Kd.G (Kd.int .u8) 5 w3 w0.heap.size P0 v l → (∀ W_, Kept w3 W_ (fun k_ => P0 k_) → Kd.C (Kd.int .u8) W_ (some ⟨w.heap.size, 0, none⟩) 32 (bufOf d)) →
      Calls Tryd.prog 105 #[v, .bool neg, .slice (some ⟨w.heap.size, 0, none⟩) 32 32, .int .i64 (Lib.nDigits d + p), .int .i64 (strip d (Lib.nDigits d)), .int .i64 (strip d (Lib.nDigits d)), .int .u8 103, .bool true] w3
        fun e w' => ∃ v0_ : Value, e = .returned v0_ ∧ Kd.G (Kd.int .u8) 5 w' w0.heap.size (fun k_ => (P0 k_ ∨ w3.heap.size ≤ k_)) v0_ (l ++ r) ∧ Below w0.heap.size w0 w' ∧ Kept w3 w' (fun k_ => P0 k_)) := Aside0.mk (by
    have hl : (bufOf d).length = 32 := by simp [bufOf]
    intro w3 a b c
    have h := Efg.strconv_fmtEFG.calls k P0 v l neg (some ⟨w.heap.size, 0, none⟩) 32 (bufOf d) _ _ _ 103 true (l ++ r) w0 w3 a b (by rw [hl]; exact c) (by omega) hf
    rw [hl] at h
    exact h)
  have HSF := Aside0.mk hsf
  have HX := Aside0.mk (And.intro hM (And.intro hM2 (And.intro hm (And.intro d0 d1))))
  have HF := Aside0.mk hf
  have HS := Aside0.mk hs
  have HO := Aside0.mk ho
  have HT := Aside0.mk (And.intro hT hT2)
  have HP := Aside0.mk hP
  have HB := Aside0.mk hB
  have hcv : IntKind.u64.wrap (n : Int) = n := uw _ (by omega) (by omega)
  clear hn32
  clear hM hM2 hm hmm d0 d1 hsf hf hs ho hT hT2 hP hB
  go_enter Tryd.func86, Tryd.ntmps86
  go_wp2_with (fail)
  go_quiet (fail)
  go_wp2_with (first
    | (go_at_call 97; go_must (refine (Tryd.bits_Len64 (M : Int) _ ?h0 ?h1).mono ?_; (case h0 => omega); (case h1 => have := HX.out; omega); rintro en w1 ⟨rfl, rfl⟩))
    | (go_at_call 106; go_must (refine (HSF.out _ ?h0).mono ?_; (case h0 => exact HT.out.1.on (by repeat (first | (with_reducible exact Below.refl _ _) | apply below_alloc | apply pw_below_drewN | apply below_drew1))); rintro en w1 ⟨rfl, hb1⟩)))
  have hz1 : w1.heap[w.heap.size]? = some (.cells (Array.replicate 32 (.int .u8 0)) 157 (0, 0)) := by
    rw [hb1.block _ (by simp)]
    refine (heap_alloc_new _ _).trans ?_
    rfl
  have hB1 : Below w.heap.size w w1 := by
    refine Below.trans ?_ (hb1.mono (by simp))
    repeat (first | (with_reducible exact Below.refl _ _) | apply below_alloc | apply pw_below_drewN | apply below_drew1)
  have HB1 := Aside0.mk hB1
  have HZ1 := Aside0.mk hz1
  clear hb1 hB1 hz1
  go_region_with (first
    | (go_at_call 83; go_must (refine (Tryd.internal_strconv_numDigits d ?h0 ?h1 _ ?h2).mono ?_; (case h0 => have := HX.out; omega); (case h1 => have := HX.out; omega); (case h2 => exact (HT.out.2.on HB1.out).on (by repeat (first | (with_reducible exact Below.refl _ _) | apply below_alloc | apply pw_below_drewN | apply below_drew1))); rintro en w2 ⟨rfl, rfl⟩))
    | (go_at_call 107; go_must (refine (setd w.heap.size d 157 p ?h0 ?h1 ?h2 _ ?h3).mono ?_; (case h0 => have := HX.out; omega); (case h1 => omega); (case h2 => omega); (case h3 => exact HZ1.out); rintro en w3 ⟨rfl, hz3, hb3, hk3⟩)))
  have hB3 : Below w.heap.size w w3 := by
    refine Below.trans HB1.out (Below.trans ?_ hb3)
    repeat (first | (with_reducible exact Below.refl _ _) | apply below_alloc | apply pw_below_drewN | apply below_drew1)
  have HB3 := Aside0.mk hB3
  have HZ3 := Aside0.mk hz3
  clear hb3 hk3 hz3 hB3
  go_wp2_with (first
    | (go_at_call 105; go_must (refine (HE.out _ ?h0 ?h1 ?h2).mono ?_; (case h0 => exact HB.out.trans (HB3.out.mono HB.out.size)); (case h1 => exact Kd.G_below HO.out HB3.out); (case h2 => exact fun W_ hk => buf_reads HZ3.out HP.out hk); rintro en w4 ⟨v', rfl, hR, hB4, hK4⟩)))
  go_ret
  exact ⟨v', rfl, Kd.G_mono hR (fun k hk => hk.imp id (fun h => Nat.le_trans HB3.out.size h)), hB4, (Kept.of_below HB3.out P0).then_ hK4 (fun _ h => .inl h)⟩


set_option maxHeartbeats 2000000 in
set_option maxRecDepth 100000 in
/-- A number that is neither zero nor an infinity nor none, of the normal ones. -/
theorem norm32 (M : Nat) (ex mt E : Int) (hE : ex + -127 = E) (he0 : 1 ≤ ex) (he1 : ex ≤ 254) (hor : Go.bits .or .u64 mt 8388608 = (M : Int)) (n : Nat) (s : Nat) (hn32 : n < 4294967296) (d : Nat) (p : Int) (neg : Bool) (r : List Int) (k : Nat)
    (hneg : ((n : Int) / 2147483648 != 0) = neg) (hex : Go.bits .and .i64 (wrap64 ((n : Int) / 8388608)) 255 = ex) (hmt : Go.bits .and .u64 (n : Int) 8388607 = mt)
    (hM : 1 ≤ M) (hM2 : M < 16777216) (hs : s = 64 - Lib.bitLen M) (s0 : 40 ≤ s) (s1 : s ≤ 63) (hm : M * 2 ^ s < 18446744073709551616)
    (d0 : 1 ≤ d) (d1 : d < 18446744073709551616) (p0 : -400 ≤ p) (p1 : p ≤ 400)
    (hsf : ∀ w, Pow w → Calls Tryd.prog 106 #[.int .u64 ((M * 2 ^ s : Nat) : Int), .int .i64 (E - s - 23)] w fun en w' => en = .returned (.tuple #[.int .u64 d, .int .i64 p]) ∧ Below w.heap.size w w')
    (P0 : Nat → Prop) (v : Value) (l : List Int) (hf : Efgd.strconv_fmtEFG.f k l neg (bufOf d) (Lib.nDigits d + p) (strip d (Lib.nDigits d)) (strip d (Lib.nDigits d)) 103 true = some (l ++ r))
    (w0 w : World) (hB : Below w0.heap.size w0 w) (ho : Kd.G (Kd.int .u8) 5 w w0.heap.size P0 v l) (hP : ∀ k, P0 k → k < w.heap.size) (hT : Pow w) (hT2 : Tab w) :
    Calls Tryd.prog 86 #[v, .float .f32 n, .int .u8 103, .int .i64 (-1)] w fun e w' => ∃ v', e = .returned v' ∧ Kd.G (Kd.int .u8) 5 w' w0.heap.size (fun k => P0 k ∨ w.heap.size ≤ k) v' (l ++ r) ∧ Below w0.heap.size w0 w' ∧ Kept w w' P0 := by
  have hb := f32b
  have hu := Aside0.mk hn32
  have n1 : IntKind.i64.wrap (64 - (Lib.bitLen M : Int)) = (s : Int) := by rw [IntKind.wrap_i64]; omega
  obtain ⟨mm, hmm⟩ : ∃ mm : Int, mm = ((M * 2 ^ s : Nat) : Int) := ⟨_, rfl⟩
  have n2 : IntKind.u64.wrap ((M : Int) * 2 ^ s) = mm := by
    have e : ((M * 2 ^ s : Nat) : Int) = (M : Int) * 2 ^ s := by rw [Int.natCast_mul, Int.natCast_pow]; rfl
    rw [hmm, ← e]
    exact uw _ (by omega) (by omega)
  rw [← hmm] at hsf
  have n3 : IntKind.i64.wrap (E - (s : Int)) = E - s := by rw [IntKind.wrap_i64]; omega
  have n4 : IntKind.i64.wrap (E - (s : Int) - 23) = E - s - 23 := by rw [IntKind.wrap_i64]; omega
  have hx0 : (ex == 0) = false := beq_eq_false_iff_ne.mpr (by omega)
  have hx1 : (ex == 255) = false := beq_eq_false_iff_ne.mpr (by omega)
  have hx2 : IntKind.i64.wrap (ex + -127) = E := by rw [IntKind.wrap_i64]; omega
  have hMne : ((M : Int) == 0) = false := beq_eq_false_iff_ne.mpr (by omega)
  have HE : Aside0 (∀ w3, Below w0.heap.size w0 w3 → Kd.G (Kd.int .u8) 5 w3 w0.heap.size P0 v l → (∀ W_, Kept w3 W_ (fun k_ => P0 k_) → Kd.C (Kd.int .u8) W_ (some ⟨w.heap.size, 0, none⟩) 32 (bufOf d)) →
      Calls Tryd.prog 105 #[v, .bool neg, .slice (some ⟨w.heap.size, 0, none⟩) 32 32, .int .i64 (Lib.nDigits d + p), .int .i64 (strip d (Lib.nDigits d)), .int .i64 (strip d (Lib.nDigits d)), .int .u8 103, .bool true] w3
        fun e w' => ∃ v0_ : Value, e = .returned v0_ ∧ Kd.G (Kd.int .u8) 5 w' w0.heap.size (fun k_ => (P0 k_ ∨ w3.heap.size ≤ k_)) v0_ (l ++ r) ∧ Below w0.heap.size w0 w' ∧ Kept w3 w' (fun k_ => P0 k_)) := Aside0.mk (by
    have hl : (bufOf d).length = 32 := by simp [bufOf]
    intro w3 a b c
    have h := Efg.strconv_fmtEFG.calls k P0 v l neg (some ⟨w.heap.size, 0, none⟩) 32 (bufOf d) _ _ _ 103 true (l ++ r) w0 w3 a b (by rw [hl]; exact c) (by omega) hf
    rw [hl] at h
    exact h)
  have HSF := Aside0.mk hsf
  have HX := Aside0.mk (And.intro hM (And.intro hM2 (And.intro hm (And.intro d0 d1))))
  have HF := Aside0.mk hf
  have HS := Aside0.mk hs
  have HO := Aside0.mk ho
  have HT := Aside0.mk (And.intro hT hT2)
  have HP := Aside0.mk hP
  have HB := Aside0.mk hB
  have hcv : IntKind.u64.wrap (n : Int) = n := uw _ (by omega) (by omega)
  clear hn32
  clear hE he0 he1 hM hM2 hm hmm d0 d1 hsf hf hs ho hT hT2 hP hB
  go_enter Tryd.func86, Tryd.ntmps86
  go_wp2_with (fail)
  go_quiet (fail)
  go_wp2_with (first
    | (go_at_call 97; go_must (refine (Tryd.bits_Len64 (M : Int) _ ?h0 ?h1).mono ?_; (case h0 => omega); (case h1 => have := HX.out; omega); rintro en w1 ⟨rfl, rfl⟩))
    | (go_at_call 106; go_must (refine (HSF.out _ ?h0).mono ?_; (case h0 => exact HT.out.1.on (by repeat (first | (with_reducible exact Below.refl _ _) | apply below_alloc | apply pw_below_drewN | apply below_drew1))); rintro en w1 ⟨rfl, hb1⟩)))
  have hz1 : w1.heap[w.heap.size]? = some (.cells (Array.replicate 32 (.int .u8 0)) 157 (0, 0)) := by
    rw [hb1.block _ (by simp)]
    refine (heap_alloc_new _ _).trans ?_
    rfl
  have hB1 : Below w.heap.size w w1 := by
    refine Below.trans ?_ (hb1.mono (by simp))
    repeat (first | (with_reducible exact Below.refl _ _) | apply below_alloc | apply pw_below_drewN | apply below_drew1)
  have HB1 := Aside0.mk hB1
  have HZ1 := Aside0.mk hz1
  clear hb1 hB1 hz1
  go_region_with (first
    | (go_at_call 83; go_must (refine (Tryd.internal_strconv_numDigits d ?h0 ?h1 _ ?h2).mono ?_; (case h0 => have := HX.out; omega); (case h1 => have := HX.out; omega); (case h2 => exact (HT.out.2.on HB1.out).on (by repeat (first | (with_reducible exact Below.refl _ _) | apply below_alloc | apply pw_below_drewN | apply below_drew1))); rintro en w2 ⟨rfl, rfl⟩))
    | (go_at_call 107; go_must (refine (setd w.heap.size d 157 p ?h0 ?h1 ?h2 _ ?h3).mono ?_; (case h0 => have := HX.out; omega); (case h1 => omega); (case h2 => omega); (case h3 => exact HZ1.out); rintro en w3 ⟨rfl, hz3, hb3, hk3⟩)))
  have hB3 : Below w.heap.size w w3 := by
    refine Below.trans HB1.out (Below.trans ?_ hb3)
    repeat (first | (with_reducible exact Below.refl _ _) | apply below_alloc | apply pw_below_drewN | apply below_drew1)
  have HB3 := Aside0.mk hB3
  have HZ3 := Aside0.mk hz3
  clear hb3 hk3 hz3 hB3
  go_wp2_with (first
    | (go_at_call 105; go_must (refine (HE.out _ ?h0 ?h1 ?h2).mono ?_; (case h0 => exact HB.out.trans (HB3.out.mono HB.out.size)); (case h1 => exact Kd.G_below HO.out HB3.out); (case h2 => exact fun W_ hk => buf_reads HZ3.out HP.out hk); rintro en w4 ⟨v', rfl, hR, hB4, hK4⟩)))
  go_ret
  exact ⟨v', rfl, Kd.G_mono hR (fun k hk => hk.imp id (fun h => Nat.le_trans HB3.out.size h)), hB4, (Kept.of_below HB3.out P0).then_ hK4 (fun _ h => .inl h)⟩


end Go.Proofs.YtdggjpdhbailpaaDoor.Ft1
