/- NewEncoder, where the indent is blanks and tabs and the delimiters are none or '<', '>'. Conditions: none on the world. -/
import Derived.Test.YticfdfomlcohpaaDoorZZt
import Derived.Test.YticfdfomlcohpaaDoorZEn0
import Derived.Laws.StructEq
import Derived.Laws.NewBlocks
import Derived.Laws.Pointers
namespace Go.Proofs.YticfdfomlcohpaaDoor.Ne
set_option linter.unusedSimpArgs false
set_option linter.unusedVariables false
open Go.RowKit Go.Proofs.YticfdfomlcohpaaDoorW.PrintWords Go.Proofs.YticfdfomlcohpaaDoorW.PrintLast Go.Proofs.YticfdfomlcohpaaDoorW.PrintMore Go.Proofs.YticfdfomlcohpaaDoor.Zt Go.Proofs.YticfdfomlcohpaaDoor.En0 Go.Proofs.YticfdfomlcohpaaDoor.PFnTextAscii

theorem q00 (W : World) : (Op.equalIn 10000 66 (.agg #[.int .u8 0, .int .u8 0]) (.agg #[.int .u8 0, .int .u8 0])).run Tryd.prog W = .ok true W := by kernel_rfl
theorem q60 (W : World) : (Op.equalIn 10000 66 (.agg #[.int .u8 60, .int .u8 62]) (.agg #[.int .u8 0, .int .u8 0])).run Tryd.prog W = .ok false W := by kernel_rfl
theorem q63 (W : World) : (Op.equalIn 10000 66 (.agg #[.int .u8 60, .int .u8 62]) (.agg #[.int .u8 123, .int .u8 125])).run Tryd.prog W = .ok false W := by kernel_rfl
theorem q66 (W : World) : (Op.equalIn 10000 66 (.agg #[.int .u8 60, .int .u8 62]) (.agg #[.int .u8 60, .int .u8 62])).run Tryd.prog W = .ok true W := by kernel_rfl
theorem qs (W : World) : (Op.equalIn 10000 9 (.string ⟨#[]⟩) (.string ⟨#[]⟩)).run Tryd.prog W = .ok true W := by kernel_rfl

set_option maxHeartbeats 1000000 in
set_option maxRecDepth 100000 in
theorem newe0 (I : ByteArray) (hI : I.size = 0) (asc : Bool) (w : World) :
    Calls Tryd.prog 21 #[.slice none 0 0, .string I, .agg #[.int .u8 0, .int .u8 0], .bool asc] w fun e w' => e = .returned (.tuple #[.pointer (some ⟨w.heap.size + 1, 0, none⟩), .nilIface]) ∧
      w'.heap[w.heap.size + 1]? = some (.cells (cs7 0 (.slice none 0 0) (.slice none 0 0) ⟨#[]⟩ 123 125 asc) 115 (0, 0)) ∧ Below w.heap.size w w' := by
  have k1 := q00
  have k2 := q60
  have k3 := q63
  have k4 := q66
  have k5 := qs
  go_enter Tryd.func21, Tryd.ntmps21
  go_wp2_with fail
  exact bodyPost_ret (v := .tuple #[.pointer (some ⟨w.heap.size + 1, 0, none⟩), .nilIface]) (by simp [results, Tryd.results21, go_sem]) rfl ⟨rfl, by rw [show w.heap.size + 1 = (w.alloc (Obj.cells #[Value.int .u8 0, .int .u8 0] 66)).heap.size from by simp]; exact blk_new _ (Obj.cells (cs7 0 (.slice none 0 0) (.slice none 0 0) ⟨#[]⟩ 123 125 asc) 115), below_alloc (below_alloc (Below.refl _ _) _) _⟩

set_option maxHeartbeats 1000000 in
set_option maxRecDepth 100000 in
theorem newe1 (I : ByteArray) (hI : I.size = 0) (asc : Bool) (w : World) :
    Calls Tryd.prog 21 #[.slice none 0 0, .string I, .agg #[.int .u8 60, .int .u8 62], .bool asc] w fun e w' => e = .returned (.tuple #[.pointer (some ⟨w.heap.size + 1, 0, none⟩), .nilIface]) ∧
      w'.heap[w.heap.size + 1]? = some (.cells (cs7 0 (.slice none 0 0) (.slice none 0 0) ⟨#[]⟩ 60 62 asc) 115 (0, 0)) ∧ Below w.heap.size w w' := by
  have k1 := q00
  have k2 := q60
  have k3 := q63
  have k4 := q66
  have k5 := qs
  go_enter Tryd.func21, Tryd.ntmps21
  go_wp2_with fail
  exact bodyPost_ret (v := .tuple #[.pointer (some ⟨w.heap.size + 1, 0, none⟩), .nilIface]) (by simp [results, Tryd.results21, go_sem]) rfl ⟨rfl, by rw [show w.heap.size + 1 = (w.alloc (Obj.cells #[Value.int .u8 60, .int .u8 62] 66)).heap.size from by simp]; exact blk_new _ (Obj.cells (cs7 0 (.slice none 0 0) (.slice none 0 0) ⟨#[]⟩ 60 62 asc) 115), below_alloc (below_alloc (Below.refl _ _) _) _⟩

set_option maxHeartbeats 1000000 in
set_option maxRecDepth 100000 in
theorem newi0 (I : ByteArray) (hI : ¬ I.size = 0) (hb : Blanks I) (asc : Bool) (w : World) :
    Calls Tryd.prog 21 #[.slice none 0 0, .string I, .agg #[.int .u8 0, .int .u8 0], .bool asc] w fun e w' => e = .returned (.tuple #[.pointer (some ⟨w.heap.size + 1, 0, none⟩), .nilIface]) ∧
      w'.heap[w.heap.size + 1]? = some (.cells (cs7 0 (.slice none 0 0) (.slice none 0 0) I 123 125 asc) 115 (0, 0)) ∧ Below w.heap.size w w' := by
  have k1 := q00
  have k2 := q60
  have k3 := q63
  have k4 := q66
  have k5 := qs
  have HT := Aside0.mk (trim I hb)
  have hI2 : (0 : Int) < (I.size : Int) := by omega
  clear hb
  go_enter Tryd.func21, Tryd.ntmps21
  have hX0 : ((w.alloc (Obj.cells #[Value.int .u8 0, .int .u8 0] 66)).alloc (Obj.cells #[Value.int .u8 0, .slice none 0 0, .slice none 0 0, .string ⟨#[]⟩, .int .u8 0, .int .u8 0, .bool false] 115)).heap[w.heap.size + 1]? = some (Obj.cells #[Value.int .u8 0, .slice none 0 0, .slice none 0 0, .string ⟨#[]⟩, .int .u8 0, .int .u8 0, .bool false] 115) := by have := blk_new (w.alloc (Obj.cells #[Value.int .u8 0, .int .u8 0] 66)) (Obj.cells #[Value.int .u8 0, .slice none 0 0, .slice none 0 0, .string ⟨#[]⟩, .int .u8 0, .int .u8 0, .bool false] 115); simpa using this
  have hY0 : ((w.alloc (Obj.cells #[Value.int .u8 0, .int .u8 0] 66)).alloc (Obj.cells #[Value.int .u8 0, .slice none 0 0, .slice none 0 0, .string ⟨#[]⟩, .int .u8 0, .int .u8 0, .bool false] 115)).heap[w.heap.size]? = some (Obj.cells #[Value.int .u8 0, .int .u8 0] 66) := blk_alloc (blk_new _ _) _
  have HX0 := Aside0.mk hX0
  have HY0 := Aside0.mk hY0
  clear hX0 hY0
  go_wp2_with (go_at_call 55; go_must (refine (HT.out _).mono ?_; rintro e1 w1 ⟨rfl, hb1⟩; have HB1 := Aside0.mk hb1; have hX := blk_below HX0.out hb1; have hY := blk_below HY0.out hb1; have HX := Aside0.mk hX; have c3 : w1.cell? ⟨w.heap.size + 1, 3, none⟩ = some (.string ⟨#[]⟩) := (blk_cell hX 3).trans rfl; have c4 : w1.cell? ⟨w.heap.size + 1, 4, none⟩ = some (.int .u8 0) := (blk_cell hX 4).trans rfl; have c5 : w1.cell? ⟨w.heap.size + 1, 5, none⟩ = some (.int .u8 0) := (blk_cell hX 5).trans rfl; have c6 : w1.cell? ⟨w.heap.size + 1, 6, none⟩ = some (.bool false) := (blk_cell hX 6).trans rfl; have y0 : w1.cell? ⟨w.heap.size, 0, none⟩ = some (.int .u8 0) := (blk_cell hY 0).trans rfl; have y1 : w1.cell? ⟨w.heap.size, 1, none⟩ = some (.int .u8 0) := (blk_cell hY 1).trans rfl; have z3 := blk_frozen hX 3; have z4 := blk_frozen hX 4; have z5 := blk_frozen hX 5; have z6 := blk_frozen hX 6; clear hb1 hX hY))
  exact bodyPost_ret (v := .tuple #[.pointer (some ⟨w.heap.size + 1, 0, none⟩), .nilIface]) (by simp [results, Tryd.results21, go_sem]) rfl ⟨rfl, blk_put (blk_put (blk_put (blk_put HX.out 3 _ rfl) 4 _ rfl) 5 _ rfl) 6 _ rfl, ((((below_then (below_alloc (below_alloc (Below.refl _ _) _) _) (by simp; omega) HB1.out).setCell (Nat.le_succ _) _).setCell (Nat.le_succ _) _).setCell (Nat.le_succ _) _).setCell (Nat.le_succ _) _⟩

set_option maxHeartbeats 1000000 in
set_option maxRecDepth 100000 in
theorem newi1 (I : ByteArray) (hI : ¬ I.size = 0) (hb : Blanks I) (asc : Bool) (w : World) :
    Calls Tryd.prog 21 #[.slice none 0 0, .string I, .agg #[.int .u8 60, .int .u8 62], .bool asc] w fun e w' => e = .returned (.tuple #[.pointer (some ⟨w.heap.size + 1, 0, none⟩), .nilIface]) ∧
      w'.heap[w.heap.size + 1]? = some (.cells (cs7 0 (.slice none 0 0) (.slice none 0 0) I 60 62 asc) 115 (0, 0)) ∧ Below w.heap.size w w' := by
  have k1 := q00
  have k2 := q60
  have k3 := q63
  have k4 := q66
  have k5 := qs
  have HT := Aside0.mk (trim I hb)
  have hI2 : (0 : Int) < (I.size : Int) := by omega
  clear hb
  go_enter Tryd.func21, Tryd.ntmps21
  have hX0 : ((w.alloc (Obj.cells #[Value.int .u8 60, .int .u8 62] 66)).alloc (Obj.cells #[Value.int .u8 0, .slice none 0 0, .slice none 0 0, .string ⟨#[]⟩, .int .u8 0, .int .u8 0, .bool false] 115)).heap[w.heap.size + 1]? = some (Obj.cells #[Value.int .u8 0, .slice none 0 0, .slice none 0 0, .string ⟨#[]⟩, .int .u8 0, .int .u8 0, .bool false] 115) := by have := blk_new (w.alloc (Obj.cells #[Value.int .u8 60, .int .u8 62] 66)) (Obj.cells #[Value.int .u8 0, .slice none 0 0, .slice none 0 0, .string ⟨#[]⟩, .int .u8 0, .int .u8 0, .bool false] 115); simpa using this
  have hY0 : ((w.alloc (Obj.cells #[Value.int .u8 60, .int .u8 62] 66)).alloc (Obj.cells #[Value.int .u8 0, .slice none 0 0, .slice none 0 0, .string ⟨#[]⟩, .int .u8 0, .int .u8 0, .bool false] 115)).heap[w.heap.size]? = some (Obj.cells #[Value.int .u8 60, .int .u8 62] 66) := blk_alloc (blk_new _ _) _
  have HX0 := Aside0.mk hX0
  have HY0 := Aside0.mk hY0
  clear hX0 hY0
  go_wp2_with (go_at_call 55; go_must (refine (HT.out _).mono ?_; rintro e1 w1 ⟨rfl, hb1⟩; have HB1 := Aside0.mk hb1; have hX := blk_below HX0.out hb1; have hY := blk_below HY0.out hb1; have HX := Aside0.mk hX; have c3 : w1.cell? ⟨w.heap.size + 1, 3, none⟩ = some (.string ⟨#[]⟩) := (blk_cell hX 3).trans rfl; have c4 : w1.cell? ⟨w.heap.size + 1, 4, none⟩ = some (.int .u8 0) := (blk_cell hX 4).trans rfl; have c5 : w1.cell? ⟨w.heap.size + 1, 5, none⟩ = some (.int .u8 0) := (blk_cell hX 5).trans rfl; have c6 : w1.cell? ⟨w.heap.size + 1, 6, none⟩ = some (.bool false) := (blk_cell hX 6).trans rfl; have y0 : w1.cell? ⟨w.heap.size, 0, none⟩ = some (.int .u8 60) := (blk_cell hY 0).trans rfl; have y1 : w1.cell? ⟨w.heap.size, 1, none⟩ = some (.int .u8 62) := (blk_cell hY 1).trans rfl; have z3 := blk_frozen hX 3; have z4 := blk_frozen hX 4; have z5 := blk_frozen hX 5; have z6 := blk_frozen hX 6; clear hb1 hX hY))
  exact bodyPost_ret (v := .tuple #[.pointer (some ⟨w.heap.size + 1, 0, none⟩), .nilIface]) (by simp [results, Tryd.results21, go_sem]) rfl ⟨rfl, blk_put (blk_put (blk_put (blk_put HX.out 3 _ rfl) 4 _ rfl) 5 _ rfl) 6 _ rfl, ((((below_then (below_alloc (below_alloc (Below.refl _ _) _) _) (by simp; omega) HB1.out).setCell (Nat.le_succ _) _).setCell (Nat.le_succ _) _).setCell (Nat.le_succ _) _).setCell (Nat.le_succ _) _⟩


theorem new (I : ByteArray) (hb : Blanks I) (angle asc : Bool) (w : World) :
    Calls Tryd.prog 21 #[.slice none 0 0, .string I, .agg #[.int .u8 (if angle then 60 else 0), .int .u8 (if angle then 62 else 0)], .bool asc] w fun e w' => e = .returned (.tuple #[.pointer (some ⟨w.heap.size + 1, 0, none⟩), .nilIface]) ∧
      At w' w.heap.size (w.heap.size + 1) I (if angle then 60 else 123) (if angle then 62 else 125) asc 0 (.slice none 0 0) (.slice none 0 0) [] [] ∧ Below w.heap.size w w' := by
  have fin : ∀ (e : Ending) (w' : World) (I2 : ByteArray) (d0 d1 : Int), I2 = I → (e = .returned (.tuple #[.pointer (some ⟨w.heap.size + 1, 0, none⟩), .nilIface]) ∧
      w'.heap[w.heap.size + 1]? = some (.cells (cs7 0 (.slice none 0 0) (.slice none 0 0) I2 d0 d1 asc) 115 (0, 0)) ∧ Below w.heap.size w w') → e = .returned (.tuple #[.pointer (some ⟨w.heap.size + 1, 0, none⟩), .nilIface]) ∧
      At w' w.heap.size (w.heap.size + 1) I d0 d1 asc 0 (.slice none 0 0) (.slice none 0 0) [] [] ∧ Below w.heap.size w w' := by
    rintro e w' I2 d0 d1 rfl ⟨h1, h2, h3⟩
    exact ⟨h1, ⟨h2, by omega, Kd.R_nil _ _ _ _ _, Kd.R_nil _ _ _ _ _⟩, h3⟩
  by_cases hI : I.size = 0
  · have h0 : (⟨#[]⟩ : ByteArray) = I := by
      obtain ⟨a⟩ := I
      have : a.size = 0 := hI
      rw [Array.eq_empty_of_size_eq_zero this]
    cases angle
    · exact (newe0 I hI asc w).mono fun e w' h => fin e w' _ _ _ h0 h
    · exact (newe1 I hI asc w).mono fun e w' h => fin e w' _ _ _ h0 h
  · cases angle
    · exact (newi0 I hI hb asc w).mono fun e w' h => fin e w' _ _ _ rfl h
    · exact (newi1 I hI hb asc w).mono fun e w' h => fin e w' _ _ _ rfl h

end Go.Proofs.YticfdfomlcohpaaDoor.Ne
