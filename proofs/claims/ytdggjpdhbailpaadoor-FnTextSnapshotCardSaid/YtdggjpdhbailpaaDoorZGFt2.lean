/- The walks of ftoa64 and ftoa32 with 'g' and -1, at zero, at infinities and at what is no number. Conditions: the row that is appended to is the call's own. -/
import Derived.Test.YtdggjpdhbailpaaDoorZGFt1
import Derived.Test.YtdggjpdhbailpaaDoorZGAs1
namespace Go.Proofs.YtdggjpdhbailpaaDoor.Ft2
open Go.RowKit Go.Proofs.YtdggjpdhbailpaaDoorW.PrintWords Go.Proofs.YtdggjpdhbailpaaDoorW.PrintLast Go.Proofs.YtdggjpdhbailpaaDoorW.PrintMore Go.Proofs.YtdggjpdhbailpaaDoor.Sf1 Go.Proofs.YtdggjpdhbailpaaDoor.Efp Go.Proofs.YtdggjpdhbailpaaDoor.PFnTextAscii Go.Proofs.YtdggjpdhbailpaaDoor.Ft1 Go.Proofs.YtdggjpdhbailpaaDoor.As1
set_option linter.unusedSectionVars false
set_option linter.unusedVariables false
variable [γ_ : Gho]

set_option maxHeartbeats 2000000 in
set_option maxRecDepth 100000 in
theorem zero64 (n : Nat) (neg : Bool) (r : List Int) (k : Nat)
    (hneg : ((n : Int) / 9223372036854775808 != 0) = neg) (hex : Go.bits .and .i64 (wrap64 ((n : Int) / 4503599627370496)) 2047 = 0) (hmt : Go.bits .and .u64 (n : Int) 4503599627370495 = 0)
    (P0 : Nat → Prop) (v : Value) (l : List Int) (hf : Efgd.strconv_fmtEFG.f k l neg [] 0 0 (-1) 103 true = some (l ++ r))
    (w0 w : World) (hB : Below w0.heap.size w0 w) (ho : Kd.G (Kd.int .u8) 5 w w0.heap.size P0 v l) :
    Calls Tryd.prog 87 #[v, .float .f64 n, .int .u8 103, .int .i64 (-1)] w fun e w' => ∃ v', e = .returned v' ∧ Kd.G (Kd.int .u8) 5 w' w0.heap.size (fun k => P0 k ∨ w.heap.size ≤ k) v' (l ++ r) ∧ Below w0.heap.size w0 w' ∧ Kept w w' P0 := by
  have hb := f64b
  have HE : Aside0 (∀ w3, Below w0.heap.size w0 w3 → Kd.G (Kd.int .u8) 5 w3 w0.heap.size P0 v l →
      Calls Tryd.prog 105 #[v, .bool neg, .slice none 0 0, .int .i64 0, .int .i64 0, .int .i64 (-1), .int .u8 103, .bool true] w3
        fun e w' => ∃ v0_ : Value, e = .returned v0_ ∧ Kd.G (Kd.int .u8) 5 w' w0.heap.size (fun k_ => (P0 k_ ∨ w3.heap.size ≤ k_)) v0_ (l ++ r) ∧ Below w0.heap.size w0 w' ∧ Kept w3 w' (fun k_ => P0 k_)) := Aside0.mk
    (fun w3 a b => Efg.strconv_fmtEFG.calls k P0 v l neg none 0 [] 0 0 (-1) 103 true (l ++ r) w0 w3 a b (fun _ _ => Db.C_int_of ⟨rfl, by decide, fun h => absurd h (by decide)⟩) (by decide) hf)
  have HO := Aside0.mk ho
  have HB := Aside0.mk hB
  clear hf ho hB
  go_enter Tryd.func87, Tryd.ntmps87
  go_wp2_with (fail)
  go_quiet (fail)
  go_wp2_with (first
    | (go_at_call 105; go_must (refine (HE.out _ ?h0 ?h1).mono ?_; (case h0 => exact pw_below_drewN HB.out _); (case h1 => exact Kd.G_drewN HO.out _); rintro en w4 ⟨v', rfl, hR, hB4, hK4⟩)))
  go_ret
  exact ⟨v', rfl, hR, hB4, hK4⟩

set_option maxHeartbeats 2000000 in
set_option maxRecDepth 100000 in
theorem zero32 (n : Nat) (hn32 : n < 4294967296) (neg : Bool) (r : List Int) (k : Nat)
    (hneg : ((n : Int) / 2147483648 != 0) = neg) (hex : Go.bits .and .i64 (wrap64 ((n : Int) / 8388608)) 255 = 0) (hmt : Go.bits .and .u64 (n : Int) 8388607 = 0)
    (P0 : Nat → Prop) (v : Value) (l : List Int) (hf : Efgd.strconv_fmtEFG.f k l neg [] 0 0 (-1) 103 true = some (l ++ r))
    (w0 w : World) (hB : Below w0.heap.size w0 w) (ho : Kd.G (Kd.int .u8) 5 w w0.heap.size P0 v l) :
    Calls Tryd.prog 86 #[v, .float .f32 n, .int .u8 103, .int .i64 (-1)] w fun e w' => ∃ v', e = .returned v' ∧ Kd.G (Kd.int .u8) 5 w' w0.heap.size (fun k => P0 k ∨ w.heap.size ≤ k) v' (l ++ r) ∧ Below w0.heap.size w0 w' ∧ Kept w w' P0 := by
  have hb := f32b
  have hcv : IntKind.u64.wrap (n : Int) = n := uw _ (by omega) (by omega)
  clear hn32
  have HE : Aside0 (∀ w3, Below w0.heap.size w0 w3 → Kd.G (Kd.int .u8) 5 w3 w0.heap.size P0 v l →
      Calls Tryd.prog 105 #[v, .bool neg, .slice none 0 0, .int .i64 0, .int .i64 0, .int .i64 (-1), .int .u8 103, .bool true] w3
        fun e w' => ∃ v0_ : Value, e = .returned v0_ ∧ Kd.G (Kd.int .u8) 5 w' w0.heap.size (fun k_ => (P0 k_ ∨ w3.heap.size ≤ k_)) v0_ (l ++ r) ∧ Below w0.heap.size w0 w' ∧ Kept w3 w' (fun k_ => P0 k_)) := Aside0.mk
    (fun w3 a b => Efg.strconv_fmtEFG.calls k P0 v l neg none 0 [] 0 0 (-1) 103 true (l ++ r) w0 w3 a b (fun _ _ => Db.C_int_of ⟨rfl, by decide, fun h => absurd h (by decide)⟩) (by decide) hf)
  have HO := Aside0.mk ho
  have HB := Aside0.mk hB
  clear hf ho hB
  go_enter Tryd.func86, Tryd.ntmps86
  go_wp2_with (fail)
  go_quiet (fail)
  go_wp2_with (first
    | (go_at_call 105; go_must (refine (HE.out _ ?h0 ?h1).mono ?_; (case h0 => exact pw_below_drewN HB.out _); (case h1 => exact Kd.G_drewN HO.out _); rintro en w4 ⟨v', rfl, hR, hB4, hK4⟩)))
  go_ret
  exact ⟨v', rfl, hR, hB4, hK4⟩

set_option maxHeartbeats 2000000 in
set_option maxRecDepth 100000 in
theorem spec64 (n : Nat) (neg : Bool) (mt : Int)
    (hneg : ((n : Int) / 9223372036854775808 != 0) = neg) (hex : Go.bits .and .i64 (wrap64 ((n : Int) / 4503599627370496)) 2047 = 2047) (hmt : Go.bits .and .u64 (n : Int) 4503599627370495 = mt)
    (P0 : Nat → Prop) (v : Value) (l : List Int) (hl : l.length + 4 ≤ 140737488355328)
    (w0 w : World) (hB : Below w0.heap.size w0 w) (ho : Kd.G (Kd.int .u8) 5 w w0.heap.size P0 v l) :
    Calls Tryd.prog 87 #[v, .float .f64 n, .int .u8 103, .int .i64 (-1)] w fun e w' => ∃ v', e = .returned v' ∧ Kd.G (Kd.int .u8) 5 w' w0.heap.size (fun k => P0 k ∨ w.heap.size ≤ k) v' (l ++ bytesOf (if mt = 0 then (if neg = true then ⟨#[45, 73, 110, 102]⟩ else ⟨#[43, 73, 110, 102]⟩) else ⟨#[78, 97, 78]⟩)) ∧ Below w0.heap.size w0 w' ∧ Kept w w' P0 := by
  have hb := f64b
  have HO := Aside0.mk ho
  have HB := Aside0.mk hB
  have HL := Aside0.mk hl
  clear ho hB hl
  by_cases c : mt = 0
  all_goals cases neg
  all_goals
    first | have hx : (mt == 0) = true := beq_iff_eq.mpr c | have hx : (mt == 0) = false := beq_eq_false_iff_ne.mpr c
    go_enter Tryd.func87, Tryd.ntmps87
    go_wp2_with (fail)
    go_quiet (fail)
    go_wp2_with (first
      | (at_builtin; refine wpList_app_str (w0 := w0) w0.heap.size rfl (.tmp 70) _ 29 9 5 rfl Tryd.underlying29 Tryd.underlying9 info5 P0 v l (⟨#[78, 97, 78]⟩ : ByteArray) rfl rfl ?aO ?aB ?aS ?aL ?_; (case aO => exact Kd.G_drewN HO.out _); (case aB => exact pw_below_drewN HB.out _); (case aS => exact HB.out.size); (case aL => have := HL.out; simp [ByteArray.size]; omega); intro v1 w1 hR hB1 hK1)
      | (at_builtin; refine wpList_app_str (w0 := w0) w0.heap.size rfl (.tmp 73) _ 29 9 5 rfl Tryd.underlying29 Tryd.underlying9 info5 P0 v l (⟨#[45, 73, 110, 102]⟩ : ByteArray) rfl rfl ?aO ?aB ?aS ?aL ?_; (case aO => exact Kd.G_drewN HO.out _); (case aB => exact pw_below_drewN HB.out _); (case aS => exact HB.out.size); (case aL => have := HL.out; simp [ByteArray.size]; omega); intro v1 w1 hR hB1 hK1)
      | (at_builtin; refine wpList_app_str (w0 := w0) w0.heap.size rfl (.tmp 75) _ 29 9 5 rfl Tryd.underlying29 Tryd.underlying9 info5 P0 v l (⟨#[43, 73, 110, 102]⟩ : ByteArray) rfl rfl ?aO ?aB ?aS ?aL ?_; (case aO => exact Kd.G_drewN HO.out _); (case aB => exact pw_below_drewN HB.out _); (case aS => exact HB.out.size); (case aL => have := HL.out; simp [ByteArray.size]; omega); intro v1 w1 hR hB1 hK1))
    go_ret
    exact ⟨v1, rfl, by simpa [c] using hR, hB1, hK1⟩

set_option maxHeartbeats 2000000 in
set_option maxRecDepth 100000 in
theorem spec32 (n : Nat) (hn32 : n < 4294967296) (neg : Bool) (mt : Int)
    (hneg : ((n : Int) / 2147483648 != 0) = neg) (hex : Go.bits .and .i64 (wrap64 ((n : Int) / 8388608)) 255 = 255) (hmt : Go.bits .and .u64 (n : Int) 8388607 = mt)
    (P0 : Nat → Prop) (v : Value) (l : List Int) (hl : l.length + 4 ≤ 140737488355328)
    (w0 w : World) (hB : Below w0.heap.size w0 w) (ho : Kd.G (Kd.int .u8) 5 w w0.heap.size P0 v l) :
    Calls Tryd.prog 86 #[v, .float .f32 n, .int .u8 103, .int .i64 (-1)] w fun e w' => ∃ v', e = .returned v' ∧ Kd.G (Kd.int .u8) 5 w' w0.heap.size (fun k => P0 k ∨ w.heap.size ≤ k) v' (l ++ bytesOf (if mt = 0 then (if neg = true then ⟨#[45, 73, 110, 102]⟩ else ⟨#[43, 73, 110, 102]⟩) else ⟨#[78, 97, 78]⟩)) ∧ Below w0.heap.size w0 w' ∧ Kept w w' P0 := by
  have hb := f32b
  have hcv : IntKind.u64.wrap (n : Int) = n := uw _ (by omega) (by omega)
  clear hn32
  have HO := Aside0.mk ho
  have HB := Aside0.mk hB
  have HL := Aside0.mk hl
  clear ho hB hl
  by_cases c : mt = 0
  all_goals cases neg
  all_goals
    first | have hx : (mt == 0) = true := beq_iff_eq.mpr c | have hx : (mt == 0) = false := beq_eq_false_iff_ne.mpr c
    go_enter Tryd.func86, Tryd.ntmps86
    go_wp2_with (fail)
    go_quiet (fail)
    go_wp2_with (first
      | (at_builtin; refine wpList_app_str (w0 := w0) w0.heap.size rfl (.tmp 70) _ 29 9 5 rfl Tryd.underlying29 Tryd.underlying9 info5 P0 v l (⟨#[78, 97, 78]⟩ : ByteArray) rfl rfl ?aO ?aB ?aS ?aL ?_; (case aO => exact Kd.G_drewN HO.out _); (case aB => exact pw_below_drewN HB.out _); (case aS => exact HB.out.size); (case aL => have := HL.out; simp [ByteArray.size]; omega); intro v1 w1 hR hB1 hK1)
      | (at_builtin; refine wpList_app_str (w0 := w0) w0.heap.size rfl (.tmp 73) _ 29 9 5 rfl Tryd.underlying29 Tryd.underlying9 info5 P0 v l (⟨#[45, 73, 110, 102]⟩ : ByteArray) rfl rfl ?aO ?aB ?aS ?aL ?_; (case aO => exact Kd.G_drewN HO.out _); (case aB => exact pw_below_drewN HB.out _); (case aS => exact HB.out.size); (case aL => have := HL.out; simp [ByteArray.size]; omega); intro v1 w1 hR hB1 hK1)
      | (at_builtin; refine wpList_app_str (w0 := w0) w0.heap.size rfl (.tmp 75) _ 29 9 5 rfl Tryd.underlying29 Tryd.underlying9 info5 P0 v l (⟨#[43, 73, 110, 102]⟩ : ByteArray) rfl rfl ?aO ?aB ?aS ?aL ?_; (case aO => exact Kd.G_drewN HO.out _); (case aB => exact pw_below_drewN HB.out _); (case aS => exact HB.out.size); (case aL => have := HL.out; simp [ByteArray.size]; omega); intro v1 w1 hR hB1 hK1))
    go_ret
    exact ⟨v1, rfl, by simpa [c] using hR, hB1, hK1⟩

end Go.Proofs.YtdggjpdhbailpaaDoor.Ft2
