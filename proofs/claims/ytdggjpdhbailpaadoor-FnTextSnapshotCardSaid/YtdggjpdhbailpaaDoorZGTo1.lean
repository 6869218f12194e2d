/- textOps: the calls of the items open and close evenly, and each is of its kind. Conditions: at most 300 items, names and texts of at most 1000 bytes, numbers of their kinds. -/
import Derived.Test.YtdggjpdhbailpaaDoorZGTo0
import Derived.Test.YtdggjpdhbailpaaDoorZIt
import Derived.Test.YtdggjpdhbailpaaDoorZOk
import Derived.Test.YtdggjpdhbailpaaDoorZGTd2
import Derived.Deep.LoopGhost
namespace Go.Proofs.YtdggjpdhbailpaaDoor.To1
set_option linter.unusedSimpArgs false
set_option linter.unusedVariables false
open Go.RowKit Go.Proofs.YtdggjpdhbailpaaDoorW.PrintWords Go.Proofs.YtdggjpdhbailpaaDoorW.PrintLast Go.Proofs.YtdggjpdhbailpaaDoorW.PrintMore Go.Proofs.YtdggjpdhbailpaaDoor.Ok Go.Proofs.YtdggjpdhbailpaaDoor.Bl Go.Proofs.YtdggjpdhbailpaaDoor.It Go.Proofs.YtdggjpdhbailpaaDoor.To0 Go.Proofs.YtdggjpdhbailpaaDoor.Lf Go.Proofs.YtdggjpdhbailpaaDoor.Pn2 Go.Proofs.YtdggjpdhbailpaaDoor.PFnTextAscii

theorem info71 : (Tryd.prog.info? 71).map (fun i => (i.zero, i.size, i.bytes)) = some (some (.agg #[.int .i64 0, .string ⟨#[]⟩, .bool false, .int .i64 0, .int .u64 0, .int .u64 0, .int .i64 0]), 7, 64) := by kernel_rfl
/-- How many calls the items make. -/
def olen : List S76 → Nat
  | [] => 0
  | ⟨_, f1, _, _, _, _, _, _, k⟩ :: r => 1 + (if f1.tmod 8 < 6 then 1 else 2 + olen k) + olen r
theorem olen_cons (x : S76) (r : List S76) : olen (x :: r) = 1 + (if x.f1.tmod 8 < 6 then 1 else 2 + olen x.f8) + olen r := by
  cases x
  rw [olen]
theorem olen_take (l : List S76) (n : Nat) : olen (l.take n) ≤ olen l := by
  induction l generalizing n with
  | nil => simp
  | cons x r ih =>
    cases n with
    | zero => simp [olen]
    | succ n => have := ih n; rw [List.take_succ_cons, olen_cons, olen_cons]; omega
theorem count_take (l : List S76) (n : Nat) : count (l.take n) ≤ count l := by
  induction l generalizing n with
  | nil => simp
  | cons x r ih =>
    cases n with
    | zero => simp [count]
    | succ n => have := ih n; rw [List.take_succ_cons, count_cons, count_cons]; omega
theorem all_take (P : S76 → Prop) (l : List S76) (h : All P l) (n : Nat) : All P (l.take n) := by
  induction l generalizing n with
  | nil => simpa using h
  | cons x r ih =>
    cases n with
    | zero => exact all_nil P
    | succ n => rw [List.take_succ_cons]; rw [all_cons] at h ⊢; exact ⟨h.1, h.2.1, ih h.2.2 n⟩
theorem count_drop (l : List S76) (i : Nat) : count (l.drop i) ≤ count l := by
  induction l generalizing i with
  | nil => simp
  | cons x r ih =>
    cases i with
    | zero => simp
    | succ i => have := ih i; rw [List.drop_succ_cons, count_cons]; omega
theorem all_drop (P : S76 → Prop) (l : List S76) (h : All P l) (i : Nat) : All P (l.drop i) := by
  induction l generalizing i with
  | nil => simpa using h
  | cons x r ih =>
    cases i with
    | zero => simpa using h
    | succ i => rw [List.drop_succ_cons]; rw [all_cons] at h; exact ih h.2.2 i
/-- What the rounds leave. -/
structure Lp (l : List S76) (i : Nat) (ops : List TOp) : Prop where
  bal : Bal ops
  good : ∀ o ∈ ops, Td2.Good o
  len : ops.length + 4 * count (l.drop i) ≤ 4 * count l
  lenE : ops.length + olen (l.drop i) = olen l
  ne : 0 < i → ops ≠ []
def nameOp (r : ByteArray) : TOp := ⟨1, r, false, 0, 0, 0, 0⟩
theorem good_zero (d : Int) (h : d = 1 ∨ d = 8 ∨ d = 9) (r : ByteArray) (hr : Asc (bytesOf r)) (hs : r.size ≤ 1001) : Td2.Good ⟨d, r, false, 0, 0, 0, 0⟩ :=
  ⟨by show 1 ≤ d; omega, by show d ≤ 9; omega, fun _ => hr, hs, (show (-9223372036854775808 : Int) ≤ 0 by decide), (show (0 : Int) ≤ 9223372036854775807 by decide), (show (0 : Int) ≤ 0 by decide), (show (0 : Int) < 18446744073709551616 by decide), (show (0 : Int) ≤ 0 by decide), (show (0 : Int) < 18446744073709551616 by decide), fun h4 => (by have h5 : d = 4 := h4; omega), fun h4 => (by have h5 : d = 4 := h4; omega)⟩
theorem good_val (d : Int) (s : ByteArray) (b : Bool) (i u f z : Int) (h : d = 2 ∨ d = 3 ∨ d = 5 ∨ d = 6 ∨ (d = 7 ∧ Asc (bytesOf s)) ∨ (d = 4 ∧ (z = 32 ∨ z = 64) ∧ (z = 32 → Td2.wordB f.toNat = false → Td2.Fix f.toNat))) (hs : s.size ≤ 1001) (i0 : -9223372036854775808 ≤ i) (i1 : i ≤ 9223372036854775807) (u0 : 0 ≤ u) (u1 : u < 18446744073709551616) (f0 : 0 ≤ f) (f1 : f < 18446744073709551616) : Td2.Good ⟨d, s, b, i, u, f, z⟩ := by
  refine ⟨by show 1 ≤ d; omega, by show d ≤ 9; omega, fun h7 => ?_, hs, i0, i1, u0, u1, f0, f1, fun h4 => ?_, fun h4 hz => ?_⟩
  · have h8 : d = 1 ∨ d = 7 := h7
    rcases h with h | h | h | h | h | h
    · omega
    · omega
    · omega
    · omega
    · exact h.2
    · omega
  · have h5 : d = 4 := h4
    rcases h with h | h | h | h | h | h
    · omega
    · omega
    · omega
    · omega
    · omega
    · exact h.2.1
  · have h5 : d = 4 := h4
    rcases h with h | h | h | h | h | h
    · omega
    · omega
    · omega
    · omega
    · omega
    · exact h.2.2 hz
theorem lp_leaf {l : List S76} {i : Nat} {ops : List TOp} {it : S76} {r : List S76} (h : Lp l i ops) (hd : l.drop i = it :: r) (hr : l.drop (i + 1) = r) (nm v : TOp) (g1 : Td2.Good nm) (g2 : Td2.Good v) (h1 : nm.d = 1) (h2 : 2 ≤ v.d) (h3 : v.d ≤ 7) (hk6 : it.f1.tmod 8 < 6) : Lp l (i + 1) (ops ++ [nm] ++ [v]) := by
  refine ⟨?_, ?_, ?_, ?_, fun _ => by simp⟩
  · rw [List.append_assoc]
    exact h.bal.append (.leaf nm v [] h1 h2 h3 .nil)
  · intro o ho
    rcases List.mem_append.1 ho with ho | ho
    · rcases List.mem_append.1 ho with ho | ho
      · exact h.good o ho
      · rw [List.mem_singleton.1 ho]; exact g1
    · rw [List.mem_singleton.1 ho]; exact g2
  · have := h.len
    rw [hd, count_cons] at this
    rw [hr]
    simp only [List.length_append, List.length_cons, List.length_nil]
    omega
  · have := h.lenE
    rw [hd, olen_cons, if_pos hk6] at this
    rw [hr]
    simp only [List.length_append, List.length_cons, List.length_nil]
    omega
theorem lp_msg {l : List S76} {i : Nat} {ops : List TOp} {it : S76} {r : List S76} (h : Lp l i ops) (hd : l.drop i = it :: r) (hr : l.drop (i + 1) = r) (nm s e : TOp) (k : List TOp) (g1 : Td2.Good nm) (g2 : Td2.Good s) (g3 : Td2.Good e) (h1 : nm.d = 1) (h2 : s.d = 8) (h3 : e.d = 9) (hb : Bal k) (hg : ∀ o ∈ k, Td2.Good o) (hk : k.length ≤ 4 * count it.f8) (he : k.length = olen it.f8) (hk6 : ¬ it.f1.tmod 8 < 6) : Lp l (i + 1) (ops ++ [nm] ++ [s] ++ k ++ [e]) := by
  refine ⟨?_, ?_, ?_, ?_, fun _ => by simp⟩
  · have := h.bal.append (.msg nm s e k [] h1 h2 h3 hb .nil)
    simpa using this
  · intro o ho
    rcases List.mem_append.1 ho with ho | ho
    · rcases List.mem_append.1 ho with ho | ho
      · rcases List.mem_append.1 ho with ho | ho
        · rcases List.mem_append.1 ho with ho | ho
          · exact h.good o ho
          · rw [List.mem_singleton.1 ho]; exact g1
        · rw [List.mem_singleton.1 ho]; exact g2
      · exact hg o ho
    · rw [List.mem_singleton.1 ho]; exact g3
  · have := h.len
    rw [hd, count_cons] at this
    rw [hr]
    simp only [List.length_append, List.length_cons, List.length_nil]
    omega
  · have := h.lenE
    rw [hd, olen_cons, if_neg hk6] at this
    rw [hr]
    simp only [List.length_append, List.length_cons, List.length_nil]
    omega

set_option maxHeartbeats 8000000 in
set_option maxRecDepth 100000 in
theorem ops (K : Nat) : ∀ (l : List S76), count l ≤ K → count l ≤ 300 → All One l → ∀ (A : Option Addr) (c : Nat) (w : World), Kd.C k76 w A l.length l → l.length ≤ c →
    Calls Tryd.prog 12 #[.slice A l.length c] w fun e w' => ∃ (v : Value) (ops : List TOp), e = .returned v ∧ Kd.R kOp 71 w' w.heap.size (fun k => w.heap.size ≤ k) v ops ∧ Bal ops ∧ (∀ o ∈ ops, Td2.Good o) ∧ ops.length ≤ 4 * count l ∧ (l ≠ [] → ops ≠ []) ∧ ops.length = olen l ∧ Below w.heap.size w w' := by
  induction K using Nat.strongRecOn with
  | _ K ih =>
  intro l hK hl hA A c w hr hc
  have HR := Aside0.mk hr
  have HC := Aside0.mk hc
  have HL := Aside0.mk (And.intro hK (And.intro hl hA))
  have IH0 := Aside0.mk ih
  have hu76 := Tryd.underlying76
  have hu71 := Tryd.underlying71
  clear hr hc hK hl hA ih
  go_enter Tryd.func12, Tryd.ntmps12
  go_wp2_with fail
  go_loopg [3, 8] l.length (fun k v3 v8 w' => ∃ (i : Nat) (ops : List TOp), v8 = .int .i64 (i : Int) ∧ Aside0 (i + k = l.length) ∧ Aside0 (Lp l i ops) ∧ Aside0 (Kd.R kOp 71 w' w.heap.size (fun k => w.heap.size ≤ k) v3 ops) ∧ Aside0 (Below w.heap.size w w'))
  case atStart => exact ⟨0, [], rfl, ⟨by omega⟩, ⟨⟨.nil, fun o ho => (by cases ho), by simp, by simp, fun h => absurd h (Nat.lt_irrefl 0)⟩⟩, ⟨Kd.R_nil _ _ _ _ _⟩, ⟨Below.refl _ _⟩⟩
  case round =>
    obtain ⟨i, ops, rfl, HK, LP, HO, HB⟩ := hrel
    by_cases hi : i < l.length
    · have hd : l.drop i = rd_T76 l (i : Int) :: l.drop (i + 1) := by
        rw [List.drop_eq_getElem_cons hi]
        congr 1
        simp [rd_T76, List.getD_eq_getElem?_getD, hi]
      have hall := all_drop One l HL.out.2.2 i
      have hcd := count_drop l i
      rw [hd, all_cons] at hall
      rw [hd, count_cons] at hcd
      obtain ⟨ad, A8, c8, e, x0, x1, x2, x3, x4, x5, x6, x7, x8, y1, y2⟩ := at_T76 HR.out (i : Int) (by omega) (by omega)
      cases e
      rw [Int.toNat_natCast] at x0 x1 x2 x3 x4 x5 x6 x7 x8
      have hB := HB.out
      have hB2 := hB
      replace x0 := (hB.cell (World.block_lt_of_cell? w _ x0)).trans x0
      replace x1 := (hB.cell (World.block_lt_of_cell? w _ x1)).trans x1
      replace x2 := (hB.cell (World.block_lt_of_cell? w _ x2)).trans x2
      replace x3 := (hB.cell (World.block_lt_of_cell? w _ x3)).trans x3
      replace x4 := (hB.cell (World.block_lt_of_cell? w _ x4)).trans x4
      replace x5 := (hB.cell (World.block_lt_of_cell? w _ x5)).trans x5
      replace x6 := (hB.cell (World.block_lt_of_cell? w _ x6)).trans x6
      replace x7 := (hB.cell (World.block_lt_of_cell? w _ x7)).trans x7
      replace x8 := (hB.cell (World.block_lt_of_cell? w _ x8)).trans x8
      have c0 : decide ((i : Int) < (l.length : Int)) = true := decide_eq_true (by omega)
      have c1 := eq_true (show (0 : Int) ≤ (i : Int) by omega)
      have c2 := eq_true (show (i : Int) < (l.length : Int) by omega)
      have hic : l.length ≤ 300 := by
        have h1 : ∀ q : List S76, q.length ≤ count q := by
          intro q
          induction q with
          | nil => simp
          | cons x r ihq => rw [count_cons, List.length_cons]; omega
        exact Nat.le_trans (h1 l) HL.out.2.1
      have c3 : IntKind.i64.wrap ((i : Int) + 1) = ((i + 1 : Nat) : Int) := by rw [IntKind.wrap_i64]; omega
      have c4 : wrap64 ((i : Int) + 1) = ((i + 1 : Nat) : Int) := by unfold wrap64; omega
      generalize rd_T76 l (i : Int) = it at *
      have LEN := Aside0.mk (show ops.length ≤ 1200 by have := LP.out.len; have := HL.out.2.1; omega)
      have LENK := Aside0.mk (show count it.f8 ≤ 300 by have := HL.out.2.1; omega)
      have HD := Aside0.mk hd
      have ONE := Aside0.mk hall.1
      have HI2 := Aside0.mk hi
      have HKID := Aside0.mk (And.intro y2 y1)
      have IH : Aside0 (∀ (A : Option Addr) (c : Nat) (w : World), Kd.C k76 w A it.f8.length it.f8 → it.f8.length ≤ c → Calls Tryd.prog 12 #[.slice A it.f8.length c] w fun e w' => ∃ (v : Value) (ops : List TOp), e = .returned v ∧ Kd.R kOp 71 w' w.heap.size (fun k => w.heap.size ≤ k) v ops ∧ Bal ops ∧ (∀ o ∈ ops, Td2.Good o) ∧ ops.length ≤ 4 * count it.f8 ∧ (it.f8 ≠ [] → ops ≠ []) ∧ ops.length = olen it.f8 ∧ Below w.heap.size w w') :=
        Aside0.mk (fun A c w => IH0.out (count it.f8) (by have := HL.out.1; omega) it.f8 (Nat.le_refl _) (by have := HL.out.2.1; omega) hall.2.1 A c w)
      obtain ⟨rn, rn1, rn2, hid⟩ := ident_ok it.f0 ONE.out.n w
      obtain ⟨rs, rs1, rs2, his⟩ := ident_ok it.f3 ONE.out.s w
      have HID := Aside0.mk hid
      have HIS := Aside0.mk his
      have HRN := Aside0.mk (And.intro rn1 rn2)
      have HRS := Aside0.mk (And.intro rs1 rs2)
      have hkk : it.f1.tmod 8 = 0 ∨ it.f1.tmod 8 = 1 ∨ it.f1.tmod 8 = 2 ∨ it.f1.tmod 8 = 3 ∨ it.f1.tmod 8 = 4 ∨ it.f1.tmod 8 = 5 ∨ it.f1.tmod 8 = 6 ∨ it.f1.tmod 8 = 7 := by
        have h0 := ONE.out.k0
        rw [Int.tmod_eq_emod_of_nonneg h0]
        omega
      clear hB hB2 hi hd hall hcd y1 y2 IH0 hid his rn1 rn2 rs1 rs2 hic
      rcases hkk with hk | hk | hk | hk | hk | hk | hk | hk
      · go_wp2_with (first | (go_at_call_of 25 (it.f0); go_must (refine (HID.out _).mono ?_; rintro e1 w1 ⟨rfl, hd1⟩; have X1 := Aside0.mk (blk_below (blk_new wr (Obj.cells #[.string it.f0, .int .u8 it.f1, .bool it.f2, .string it.f3, .int .i64 it.f4, .int .u64 it.f5, .int .u64 it.f6, .bool it.f7, .slice A8 it.f8.length c8] 76)) hd1.below); have R1 := Aside0.mk (Kd.R_below (Kd.R_below HO.out (below_alloc (Below.refl _ _) _)) hd1.below); have B1 := Aside0.mk (below_then (below_alloc HB.out _) (by have := HB.out.size; simp; omega) hd1.below); clear hd1)) | (at_builtin; refine Kd.R_append kOp (w0 := w) w.heap.size rfl (.tmp 12) (.tmp 17) 36 71 (.agg #[.int .i64 0, .string ⟨#[]⟩, .bool false, .int .i64 0, .int .u64 0, .int .u64 0, .int .i64 0]) 64 rfl Tryd.underlying36 info71 rfl (by decide) (by decide) u3 (ops) ⟨1, rn, false, 0, 0, 0, 0⟩ [.int .i64 1, .string rn, .bool false, .int .i64 0, .int .u64 0, .int .u64 0, .int .i64 0] (fun k => w.heap.size ≤ k) (fun _ => False) rfl rfl (kOp_mkM _ _ _ ⟨1, rn, false, 0, 0, 0, 0⟩) (fun _ hk => hk.elim) (fun k hk => Nat.le_trans B1.out.size hk) R1.out B1.out B1.out.size (by have := LEN.out; (try simp only [List.length_append, List.length_cons, List.length_nil]); omega) ?_; intro v2 w2 hR hB hG hat; have X2 := Aside0.mk (blk_grown X1.out hG (Kd.R_ne R1.out X1.out (by decide))); have R2 := Aside0.mk hR; have B2 := Aside0.mk hB; have b1_2 : w2.cell? ⟨wr.heap.size, 1, none⟩ = some (.int .u8 it.f1) := (blk_cell X2.out 1).trans rfl; have b2_2 : w2.cell? ⟨wr.heap.size, 2, none⟩ = some (.bool it.f2) := (blk_cell X2.out 2).trans rfl; clear hR hB hG hat) | (at_builtin; refine Kd.R_append kOp (w0 := w) w.heap.size rfl (.tmp 37) (.tmp 41) 36 71 (.agg #[.int .i64 0, .string ⟨#[]⟩, .bool false, .int .i64 0, .int .u64 0, .int .u64 0, .int .i64 0]) 64 rfl Tryd.underlying36 info71 rfl (by decide) (by decide) v2 (ops ++ [⟨1, rn, false, 0, 0, 0, 0⟩]) ⟨2, ⟨#[]⟩, it.f2, 0, 0, 0, 0⟩ [.int .i64 2, .string ⟨#[]⟩, .bool it.f2, .int .i64 0, .int .u64 0, .int .u64 0, .int .i64 0] (fun k => w.heap.size ≤ k) (fun _ => False) rfl rfl (kOp_mkM _ _ _ ⟨2, ⟨#[]⟩, it.f2, 0, 0, 0, 0⟩) (fun _ hk => hk.elim) (fun k hk => Nat.le_trans B2.out.size hk) R2.out B2.out B2.out.size (by have := LEN.out; (try simp only [List.length_append, List.length_cons, List.length_nil]); omega) ?_; intro v3 w3 hR hB hG hat; have X3 := Aside0.mk (blk_grown X2.out hG (Kd.R_ne R2.out X2.out (by decide))); have R3 := Aside0.mk hR; have B3 := Aside0.mk hB; clear hR hB hG hat))
        go_roundg (l.length - (i + 1))
        case measure => have := HK.out; have := HI2.out; omega
        case rel => exact ⟨i + 1, ops ++ [⟨1, rn, false, 0, 0, 0, 0⟩] ++ [⟨2, ⟨#[]⟩, it.f2, 0, 0, 0, 0⟩], by first | rfl | (simp; done) | (simp [c4]; done), ⟨by have := HI2.out; omega⟩, ⟨lp_leaf LP.out HD.out rfl _ _ (good_zero 1 (.inl rfl) rn HRN.out.1 HRN.out.2) (good_val _ _ _ _ _ _ _ (.inl rfl) (by decide) (by decide) (by decide) (by decide) (by decide) (by decide) (by decide)) rfl (show (2 : Int) ≤ 2 by decide) (show (2 : Int) ≤ 7 by decide) (by omega)⟩, R3, B3⟩
      · go_wp2_with (first | (go_at_call_of 25 (it.f0); go_must (refine (HID.out _).mono ?_; rintro e1 w1 ⟨rfl, hd1⟩; have X1 := Aside0.mk (blk_below (blk_new wr (Obj.cells #[.string it.f0, .int .u8 it.f1, .bool it.f2, .string it.f3, .int .i64 it.f4, .int .u64 it.f5, .int .u64 it.f6, .bool it.f7, .slice A8 it.f8.length c8] 76)) hd1.below); have R1 := Aside0.mk (Kd.R_below (Kd.R_below HO.out (below_alloc (Below.refl _ _) _)) hd1.below); have B1 := Aside0.mk (below_then (below_alloc HB.out _) (by have := HB.out.size; simp; omega) hd1.below); clear hd1)) | (at_builtin; refine Kd.R_append kOp (w0 := w) w.heap.size rfl (.tmp 12) (.tmp 17) 36 71 (.agg #[.int .i64 0, .string ⟨#[]⟩, .bool false, .int .i64 0, .int .u64 0, .int .u64 0, .int .i64 0]) 64 rfl Tryd.underlying36 info71 rfl (by decide) (by decide) u3 (ops) ⟨1, rn, false, 0, 0, 0, 0⟩ [.int .i64 1, .string rn, .bool false, .int .i64 0, .int .u64 0, .int .u64 0, .int .i64 0] (fun k => w.heap.size ≤ k) (fun _ => False) rfl rfl (kOp_mkM _ _ _ ⟨1, rn, false, 0, 0, 0, 0⟩) (fun _ hk => hk.elim) (fun k hk => Nat.le_trans B1.out.size hk) R1.out B1.out B1.out.size (by have := LEN.out; (try simp only [List.length_append, List.length_cons, List.length_nil]); omega) ?_; intro v2 w2 hR hB hG hat; have X2 := Aside0.mk (blk_grown X1.out hG (Kd.R_ne R1.out X1.out (by decide))); have R2 := Aside0.mk hR; have B2 := Aside0.mk hB; have b1_2 : w2.cell? ⟨wr.heap.size, 1, none⟩ = some (.int .u8 it.f1) := (blk_cell X2.out 1).trans rfl; have b3_2 : w2.cell? ⟨wr.heap.size, 3, none⟩ = some (.string it.f3) := (blk_cell X2.out 3).trans rfl; clear hR hB hG hat) | (at_builtin; refine Kd.R_append kOp (w0 := w) w.heap.size rfl (.tmp 45) (.tmp 49) 36 71 (.agg #[.int .i64 0, .string ⟨#[]⟩, .bool false, .int .i64 0, .int .u64 0, .int .u64 0, .int .i64 0]) 64 rfl Tryd.underlying36 info71 rfl (by decide) (by decide) v2 (ops ++ [⟨1, rn, false, 0, 0, 0, 0⟩]) ⟨3, it.f3, false, 0, 0, 0, 0⟩ [.int .i64 3, .string it.f3, .bool false, .int .i64 0, .int .u64 0, .int .u64 0, .int .i64 0] (fun k => w.heap.size ≤ k) (fun _ => False) rfl rfl (kOp_mkM _ _ _ ⟨3, it.f3, false, 0, 0, 0, 0⟩) (fun _ hk => hk.elim) (fun k hk => Nat.le_trans B2.out.size hk) R2.out B2.out B2.out.size (by have := LEN.out; (try simp only [List.length_append, List.length_cons, List.length_nil]); omega) ?_; intro v3 w3 hR hB hG hat; have X3 := Aside0.mk (blk_grown X2.out hG (Kd.R_ne R2.out X2.out (by decide))); have R3 := Aside0.mk hR; have B3 := Aside0.mk hB; clear hR hB hG hat))
        go_roundg (l.length - (i + 1))
        case measure => have := HK.out; have := HI2.out; omega
        case rel => exact ⟨i + 1, ops ++ [⟨1, rn, false, 0, 0, 0, 0⟩] ++ [⟨3, it.f3, false, 0, 0, 0, 0⟩], by first | rfl | (simp; done) | (simp [c4]; done), ⟨by have := HI2.out; omega⟩, ⟨lp_leaf LP.out HD.out rfl _ _ (good_zero 1 (.inl rfl) rn HRN.out.1 HRN.out.2) (good_val _ _ _ _ _ _ _ (.inr (.inl rfl)) (by have := ONE.out.s; omega) (by decide) (by decide) (by decide) (by decide) (by decide) (by decide)) rfl (show (2 : Int) ≤ 3 by decide) (show (3 : Int) ≤ 7 by decide) (by omega)⟩, R3, B3⟩
      · have HFL : Aside0 (∀ W : World, Calls Tryd.prog 26 #[.agg #[.string it.f0, .int .u8 it.f1, .bool it.f2, .string it.f3, .int .i64 it.f4, .int .u64 it.f5, .int .u64 it.f6, .bool it.f7, .slice A8 it.f8.length c8]] W fun e w' => ∃ m : Nat, m < 18446744073709551616 ∧ (it.f7 = true → Td2.wordB m = false → Td2.Fix m) ∧ e = .returned (.int .u64 (m : Int)) ∧ Below W.heap.size W w') := Aside0.mk (by
          intro W
          obtain ⟨n, hn⟩ := Int.eq_ofNat_of_zero_le ONE.out.f0
          rw [hn]
          exact float_ok _ _ _ _ _ _ n _ _ (by have := ONE.out.f1; omega) ⟨_, _, _, rfl⟩ W)
        obtain ⟨wd, hwd, hw2⟩ : ∃ r : Int, ((r = 32 ∨ r = 64) ∧ (r = 32 → it.f7 = true)) ∧ ∀ (W : World), Kd.C k76 W A8 it.f8.length it.f8 → Calls Tryd.prog 27 #[.agg #[.string it.f0, .int .u8 it.f1, .bool it.f2, .string it.f3, .int .i64 it.f4, .int .u64 it.f5, .int .u64 it.f6, .bool it.f7, .slice A8 it.f8.length c8]] W fun e w' => e = .returned (.int .i64 r) ∧ Below W.heap.size W w' := by
          refine ⟨if it.f7 then 32 else 64, by cases it.f7 <;> simp, fun W hW => ?_⟩
          refine (laws_width.calls it.f0 it.f1 it.f2 it.f3 it.f4 it.f5 it.f6 it.f7 A8 c8 it.f8 _ W hW HKID.out.2 (by unfold laws_width.f; cases it.f7 <;> rfl)).mono fun e w' h => ⟨h.1, ?_⟩
          first | exact h.2 | exact h.2.below
        have HWD := Aside0.mk hw2
        have HWV := Aside0.mk hwd
        clear hw2 hwd
        go_wp2_with (first | (go_at_call_of 25 (it.f0); go_must (refine (HID.out _).mono ?_; rintro e1 w1 ⟨rfl, hd1⟩; have X1 := Aside0.mk (blk_below (blk_new wr (Obj.cells #[.string it.f0, .int .u8 it.f1, .bool it.f2, .string it.f3, .int .i64 it.f4, .int .u64 it.f5, .int .u64 it.f6, .bool it.f7, .slice A8 it.f8.length c8] 76)) hd1.below); have R1 := Aside0.mk (Kd.R_below (Kd.R_below HO.out (below_alloc (Below.refl _ _) _)) hd1.below); have B1 := Aside0.mk (below_then (below_alloc HB.out _) (by have := HB.out.size; simp; omega) hd1.below); clear hd1)) | (at_builtin; refine Kd.R_append kOp (w0 := w) w.heap.size rfl (.tmp 12) (.tmp 17) 36 71 (.agg #[.int .i64 0, .string ⟨#[]⟩, .bool false, .int .i64 0, .int .u64 0, .int .u64 0, .int .i64 0]) 64 rfl Tryd.underlying36 info71 rfl (by decide) (by decide) u3 (ops) ⟨1, rn, false, 0, 0, 0, 0⟩ [.int .i64 1, .string rn, .bool false, .int .i64 0, .int .u64 0, .int .u64 0, .int .i64 0] (fun k => w.heap.size ≤ k) (fun _ => False) rfl rfl (kOp_mkM _ _ _ ⟨1, rn, false, 0, 0, 0, 0⟩) (fun _ hk => hk.elim) (fun k hk => Nat.le_trans B1.out.size hk) R1.out B1.out B1.out.size (by have := LEN.out; (try simp only [List.length_append, List.length_cons, List.length_nil]); omega) ?_; intro v2 w2 hR hB hG hat; have X2 := Aside0.mk (blk_grown X1.out hG (Kd.R_ne R1.out X1.out (by decide))); have R2 := Aside0.mk hR; have B2 := Aside0.mk hB; have b1_2 : w2.cell? ⟨wr.heap.size, 1, none⟩ = some (.int .u8 it.f1) := (blk_cell X2.out 1).trans rfl; have b2_2 : w2.cell? ⟨wr.heap.size, 2, none⟩ = some (.bool it.f2) := (blk_cell X2.out 2).trans rfl; clear hR hB hG hat))
        refine start_ (n := 9) (S := fun w' => w'.cell? ⟨wr.heap.size, 0, none⟩ = some (.string it.f0) ∧ w'.cell? ⟨wr.heap.size, 1, none⟩ = some (.int .u8 it.f1) ∧ w'.cell? ⟨wr.heap.size, 2, none⟩ = some (.bool it.f2) ∧ w'.cell? ⟨wr.heap.size, 3, none⟩ = some (.string it.f3) ∧ w'.cell? ⟨wr.heap.size, 4, none⟩ = some (.int .i64 it.f4) ∧ w'.cell? ⟨wr.heap.size, 5, none⟩ = some (.int .u64 it.f5) ∧ w'.cell? ⟨wr.heap.size, 6, none⟩ = some (.int .u64 it.f6) ∧ w'.cell? ⟨wr.heap.size, 7, none⟩ = some (.bool it.f7) ∧ w'.cell? ⟨wr.heap.size, 8, none⟩ = some (.slice A8 it.f8.length c8)) (ds := []) #[false, false, false, false, false, false, false, false, false] (by kernel_rfl) rfl rfl ⟨(blk_cell (blk_drew X2.out) 0).trans rfl, (blk_cell (blk_drew X2.out) 1).trans rfl, (blk_cell (blk_drew X2.out) 2).trans rfl, (blk_cell (blk_drew X2.out) 3).trans rfl, (blk_cell (blk_drew X2.out) 4).trans rfl, (blk_cell (blk_drew X2.out) 5).trans rfl, (blk_cell (blk_drew X2.out) 6).trans rfl, (blk_cell (blk_drew X2.out) 7).trans rfl, (blk_cell (blk_drew X2.out) 8).trans rfl⟩ (fun hHeld => ?_)
        refine pure_ (i := 0) (N := some 53) (v := ?_) (a' := ?_) #[true, false, false, false, false, false, false, false, false] rfl rfl (by kernel_rfl) (fun _ _ _ h => h) (Or.inl ⟨by rfl, ?_⟩) ?_ ?_
        rotate_left
        · intro w'
          go_simp
          with_reducible rfl
        rotate_left
        · simp only [Act.put, List.setIfInBounds_toArray, List.set_cons_zero, List.set_cons_succ, i64_w, i32_w]
          rfl
        refine take_ (i := 1) (N := some 54) (v := ?_) (a' := ?_) #[true, true, false, false, false, false, false, false, false] rfl rfl (by kernel_rfl) (fun _ _ _ h => h) (Or.inl ⟨by rfl, ?_⟩) hHeld ?_ ?_
        rotate_left
        · rintro w' ⟨s0, s1, s2, s3, s4, s5, s6, s7, s8⟩
          go_simp
          with_reducible rfl
        rotate_left
        · simp only [Act.put, List.setIfInBounds_toArray, List.set_cons_zero, List.set_cons_succ, i64_w, i32_w]
          rfl
        refine take_ (i := 3) (N := some 56) (v := ?_) (a' := ?_) #[true, true, false, true, false, false, false, false, false] rfl rfl (by kernel_rfl) (fun _ _ _ h => h) (Or.inl ⟨by rfl, ?_⟩) hHeld ?_ ?_
        rotate_left
        · rintro w' ⟨s0, s1, s2, s3, s4, s5, s6, s7, s8⟩
          go_simp
          with_reducible rfl
        rotate_left
        · simp only [Act.put, List.setIfInBounds_toArray, List.set_cons_zero, List.set_cons_succ, i64_w, i32_w]
          rfl
        refine one_ (i := 2) (N := some 55) #[true, true, true, true, false, false, false, false, false] rfl rfl (by kernel_rfl) (by decide) (fun K hK => ?_)
        refine goes_ Tryd.func26 (by kernel_rfl) rfl #[.agg #[.string it.f0, .int .u8 it.f1, .bool it.f2, .string it.f3, .int .i64 it.f4, .int .u64 it.f5, .int .u64 it.f6, .bool it.f7, .slice A8 it.f8.length c8]] (by rfl) rfl rfl (by simp only [List.map_toArray, List.map_cons, List.map_nil]; rfl) ?_
        with_reducible refine (HFL.out w2.drew).mono ?_
        rintro e4 w4 ⟨m4, hm4, hfx, rfl, hb4⟩
        refine ⟨_, rfl, ?_⟩
        have X4 := Aside0.mk (blk_below (blk_drew X2.out) hb4); have R4 := Aside0.mk (Kd.R_below (Kd.R_drew R2.out) hb4); have B4 := Aside0.mk (below_then (Below.drew B2.out) B2.out.size hb4); have HM4 := Aside0.mk hm4; have HFX := Aside0.mk hfx; clear hb4 hm4 hfx
        refine hK.out _ _ ⟨(blk_cell X4.out 0).trans rfl, (blk_cell X4.out 1).trans rfl, (blk_cell X4.out 2).trans rfl, (blk_cell X4.out 3).trans rfl, (blk_cell X4.out 4).trans rfl, (blk_cell X4.out 5).trans rfl, (blk_cell X4.out 6).trans rfl, (blk_cell X4.out 7).trans rfl, (blk_cell X4.out 8).trans rfl⟩ (fun hHeld => ?_)
        clear hK K
        refine norm_ (a' := ?_) ?_ ?_
        rotate_left
        · show Act.put _ (some 55) _ = _
          simp only [Act.put, List.setIfInBounds_toArray, List.set_cons_zero, List.set_cons_succ, i64_w, i32_w]
          rfl
        refine one_ (i := 4) (N := some 57) #[true, true, true, true, true, false, false, false, false] rfl rfl (by kernel_rfl) (by decide) (fun K hK => ?_)
        refine goes_ Tryd.func27 (by kernel_rfl) rfl #[.agg #[.string it.f0, .int .u8 it.f1, .bool it.f2, .string it.f3, .int .i64 it.f4, .int .u64 it.f5, .int .u64 it.f6, .bool it.f7, .slice A8 it.f8.length c8]] (by rfl) rfl rfl (by simp only [List.map_toArray, List.map_cons, List.map_nil]; rfl) ?_
        with_reducible refine (HWD.out w4 (Kd.C_below HKID.out.1 B4.out)).mono ?_
        rintro e5 w5 ⟨rfl, hb5⟩
        refine ⟨_, rfl, ?_⟩
        have X5 := Aside0.mk (blk_below X4.out hb5); have R5 := Aside0.mk (Kd.R_below R4.out hb5); have B5 := Aside0.mk (below_then B4.out B4.out.size hb5); clear hb5
        refine hK.out _ _ ⟨(blk_cell X5.out 0).trans rfl, (blk_cell X5.out 1).trans rfl, (blk_cell X5.out 2).trans rfl, (blk_cell X5.out 3).trans rfl, (blk_cell X5.out 4).trans rfl, (blk_cell X5.out 5).trans rfl, (blk_cell X5.out 6).trans rfl, (blk_cell X5.out 7).trans rfl, (blk_cell X5.out 8).trans rfl⟩ (fun hHeld => ?_)
        clear hK K
        refine norm_ (a' := ?_) ?_ ?_
        rotate_left
        · show Act.put _ (some 57) _ = _
          simp only [Act.put, List.setIfInBounds_toArray, List.set_cons_zero, List.set_cons_succ, i64_w, i32_w]
          rfl
        refine pure_ (i := 5) (N := some 58) (v := ?_) (a' := ?_) #[true, true, true, true, true, true, false, false, false] rfl rfl (by kernel_rfl) (fun _ _ _ h => h) (Or.inl ⟨by rfl, ?_⟩) ?_ ?_
        rotate_left
        · intro w'
          go_simp
          with_reducible rfl
        rotate_left
        · simp only [Act.put, List.setIfInBounds_toArray, List.set_cons_zero, List.set_cons_succ, i64_w, i32_w]
          rfl
        refine one_ (i := 6) (N := some 59) #[true, true, true, true, true, true, true, false, false] rfl rfl (by kernel_rfl) (by decide) (fun K hK => ?_)
        refine value_ (w1 := ?_) (v := ?_) (by rfl) rfl ?_ ?_
        rotate_left 2
        · go_simp
          constructor
          · rfl
          · rfl
        refine hK.out _ _ ⟨(blk_cell (blk_alloc X5.out _) 0).trans rfl, (blk_cell (blk_alloc X5.out _) 1).trans rfl, (blk_cell (blk_alloc X5.out _) 2).trans rfl, (blk_cell (blk_alloc X5.out _) 3).trans rfl, (blk_cell (blk_alloc X5.out _) 4).trans rfl, (blk_cell (blk_alloc X5.out _) 5).trans rfl, (blk_cell (blk_alloc X5.out _) 6).trans rfl, (blk_cell (blk_alloc X5.out _) 7).trans rfl, (blk_cell (blk_alloc X5.out _) 8).trans rfl⟩ (fun hHeld => ?_)
        clear hK K
        refine norm_ (a' := ?_) ?_ ?_
        rotate_left
        · show Act.put _ (some 59) _ = _
          simp only [Act.put, List.setIfInBounds_toArray, List.set_cons_zero, List.set_cons_succ, i64_w, i32_w]
          rfl
        refine one_ (i := 7) (N := some 60) #[true, true, true, true, true, true, true, true, false] rfl rfl (by kernel_rfl) (by decide) (fun K hK => ?_)
        refine Kd.R_append_step kOp (w0 := w) w.heap.size (by rfl) (.tmp 53) (.tmp 59) 36 71 (.agg #[.int .i64 0, .string ⟨#[]⟩, .bool false, .int .i64 0, .int .u64 0, .int .u64 0, .int .i64 0]) 64 (by rfl) Tryd.underlying36 info71 rfl (by decide) (by decide) v2 (ops ++ [⟨1, rn, false, 0, 0, 0, 0⟩]) ⟨4, ⟨#[]⟩, false, 0, 0, m4, wd⟩ [.int .i64 4, .string ⟨#[]⟩, .bool false, .int .i64 0, .int .u64 0, .int .u64 m4, .int .i64 wd] (fun k => w.heap.size ≤ k) (fun _ => False) (by rfl) (by rfl) (kOp_mkM _ _ _ ⟨4, ⟨#[]⟩, false, 0, 0, m4, wd⟩) (fun _ hk => hk.elim) (fun k hk => Nat.le_trans B5.out.size hk) R5.out B5.out B5.out.size (by have := LEN.out; (try simp only [List.length_append, List.length_cons, List.length_nil]); omega) ?_
        intro v6 w6 hR hB hG hat; have X6 := Aside0.mk (blk_grown X5.out hG (Kd.R_ne R5.out X5.out (by decide))); have R6 := Aside0.mk hR; have B6 := Aside0.mk hB; clear hR hB hG hat
        refine hK.out _ _ ⟨(blk_cell X6.out 0).trans rfl, (blk_cell X6.out 1).trans rfl, (blk_cell X6.out 2).trans rfl, (blk_cell X6.out 3).trans rfl, (blk_cell X6.out 4).trans rfl, (blk_cell X6.out 5).trans rfl, (blk_cell X6.out 6).trans rfl, (blk_cell X6.out 7).trans rfl, (blk_cell X6.out 8).trans rfl⟩ (fun hHeld => ?_)
        clear hK K
        refine norm_ (a' := ?_) ?_ ?_
        rotate_left
        · show Act.put _ (some 60) _ = _
          simp only [Act.put, List.setIfInBounds_toArray, List.set_cons_zero, List.set_cons_succ, i64_w, i32_w]
          rfl
        refine pure_ (i := 8) (N := some 3) (v := ?_) (a' := ?_) #[true, true, true, true, true, true, true, true, true] rfl rfl (by kernel_rfl) (fun _ _ _ h => h) (Or.inl ⟨by rfl, ?_⟩) ?_ ?_
        rotate_left
        · intro w'
          go_simp
          with_reducible rfl
        rotate_left
        · simp only [Act.put, List.setIfInBounds_toArray, List.set_cons_zero, List.set_cons_succ, i64_w, i32_w]
          rfl
        refine done_ (by kernel_rfl) ?_
        go_wp2_with fail
        go_roundg (l.length - (i + 1))
        case measure => have := HK.out; have := HI2.out; omega
        case rel => exact ⟨i + 1, ops ++ [⟨1, rn, false, 0, 0, 0, 0⟩] ++ [⟨4, ⟨#[]⟩, false, 0, 0, m4, wd⟩], by first | rfl | (simp; done) | (simp [c4]; done), ⟨by have := HI2.out; omega⟩, ⟨lp_leaf LP.out HD.out rfl _ _ (good_zero 1 (.inl rfl) rn HRN.out.1 HRN.out.2) (good_val 4 ⟨#[]⟩ false 0 0 (m4 : Int) wd (.inr (.inr (.inr (.inr (.inr ⟨rfl, HWV.out.1, fun h => HFX.out (HWV.out.2 h)⟩))))) (by decide) (by decide) (by decide) (by decide) (by decide) (by omega) (by have := HM4.out; omega)) rfl (show (2 : Int) ≤ 4 by decide) (show (4 : Int) ≤ 7 by decide) (by omega)⟩, R6, B6⟩
      · go_wp2_with (first | (go_at_call_of 25 (it.f0); go_must (refine (HID.out _).mono ?_; rintro e1 w1 ⟨rfl, hd1⟩; have X1 := Aside0.mk (blk_below (blk_new wr (Obj.cells #[.string it.f0, .int .u8 it.f1, .bool it.f2, .string it.f3, .int .i64 it.f4, .int .u64 it.f5, .int .u64 it.f6, .bool it.f7, .slice A8 it.f8.length c8] 76)) hd1.below); have R1 := Aside0.mk (Kd.R_below (Kd.R_below HO.out (below_alloc (Below.refl _ _) _)) hd1.below); have B1 := Aside0.mk (below_then (below_alloc HB.out _) (by have := HB.out.size; simp; omega) hd1.below); clear hd1)) | (at_builtin; refine Kd.R_append kOp (w0 := w) w.heap.size rfl (.tmp 12) (.tmp 17) 36 71 (.agg #[.int .i64 0, .string ⟨#[]⟩, .bool false, .int .i64 0, .int .u64 0, .int .u64 0, .int .i64 0]) 64 rfl Tryd.underlying36 info71 rfl (by decide) (by decide) u3 (ops) ⟨1, rn, false, 0, 0, 0, 0⟩ [.int .i64 1, .string rn, .bool false, .int .i64 0, .int .u64 0, .int .u64 0, .int .i64 0] (fun k => w.heap.size ≤ k) (fun _ => False) rfl rfl (kOp_mkM _ _ _ ⟨1, rn, false, 0, 0, 0, 0⟩) (fun _ hk => hk.elim) (fun k hk => Nat.le_trans B1.out.size hk) R1.out B1.out B1.out.size (by have := LEN.out; (try simp only [List.length_append, List.length_cons, List.length_nil]); omega) ?_; intro v2 w2 hR hB hG hat; have X2 := Aside0.mk (blk_grown X1.out hG (Kd.R_ne R1.out X1.out (by decide))); have R2 := Aside0.mk hR; have B2 := Aside0.mk hB; have b1_2 : w2.cell? ⟨wr.heap.size, 1, none⟩ = some (.int .u8 it.f1) := (blk_cell X2.out 1).trans rfl; have b4_2 : w2.cell? ⟨wr.heap.size, 4, none⟩ = some (.int .i64 it.f4) := (blk_cell X2.out 4).trans rfl; clear hR hB hG hat) | (at_builtin; refine Kd.R_append kOp (w0 := w) w.heap.size rfl (.tmp 63) (.tmp 67) 36 71 (.agg #[.int .i64 0, .string ⟨#[]⟩, .bool false, .int .i64 0, .int .u64 0, .int .u64 0, .int .i64 0]) 64 rfl Tryd.underlying36 info71 rfl (by decide) (by decide) v2 (ops ++ [⟨1, rn, false, 0, 0, 0, 0⟩]) ⟨5, ⟨#[]⟩, false, it.f4, 0, 0, 0⟩ [.int .i64 5, .string ⟨#[]⟩, .bool false, .int .i64 it.f4, .int .u64 0, .int .u64 0, .int .i64 0] (fun k => w.heap.size ≤ k) (fun _ => False) rfl rfl (kOp_mkM _ _ _ ⟨5, ⟨#[]⟩, false, it.f4, 0, 0, 0⟩) (fun _ hk => hk.elim) (fun k hk => Nat.le_trans B2.out.size hk) R2.out B2.out B2.out.size (by have := LEN.out; (try simp only [List.length_append, List.length_cons, List.length_nil]); omega) ?_; intro v3 w3 hR hB hG hat; have X3 := Aside0.mk (blk_grown X2.out hG (Kd.R_ne R2.out X2.out (by decide))); have R3 := Aside0.mk hR; have B3 := Aside0.mk hB; clear hR hB hG hat))
        go_roundg (l.length - (i + 1))
        case measure => have := HK.out; have := HI2.out; omega
        case rel => exact ⟨i + 1, ops ++ [⟨1, rn, false, 0, 0, 0, 0⟩] ++ [⟨5, ⟨#[]⟩, false, it.f4, 0, 0, 0⟩], by first | rfl | (simp; done) | (simp [c4]; done), ⟨by have := HI2.out; omega⟩, ⟨lp_leaf LP.out HD.out rfl _ _ (good_zero 1 (.inl rfl) rn HRN.out.1 HRN.out.2) (good_val _ _ _ _ _ _ _ (.inr (.inr (.inl rfl))) (by decide) ONE.out.i0 ONE.out.i1 (by decide) (by decide) (by decide) (by decide)) rfl (show (2 : Int) ≤ 5 by decide) (show (5 : Int) ≤ 7 by decide) (by omega)⟩, R3, B3⟩
      · go_wp2_with (first | (go_at_call_of 25 (it.f0); go_must (refine (HID.out _).mono ?_; rintro e1 w1 ⟨rfl, hd1⟩; have X1 := Aside0.mk (blk_below (blk_new wr (Obj.cells #[.string it.f0, .int .u8 it.f1, .bool it.f2, .string it.f3, .int .i64 it.f4, .int .u64 it.f5, .int .u64 it.f6, .bool it.f7, .slice A8 it.f8.length c8] 76)) hd1.below); have R1 := Aside0.mk (Kd.R_below (Kd.R_below HO.out (below_alloc (Below.refl _ _) _)) hd1.below); have B1 := Aside0.mk (below_then (below_alloc HB.out _) (by have := HB.out.size; simp; omega) hd1.below); clear hd1)) | (at_builtin; refine Kd.R_append kOp (w0 := w) w.heap.size rfl (.tmp 12) (.tmp 17) 36 71 (.agg #[.int .i64 0, .string ⟨#[]⟩, .bool false, .int .i64 0, .int .u64 0, .int .u64 0, .int .i64 0]) 64 rfl Tryd.underlying36 info71 rfl (by decide) (by decide) u3 (ops) ⟨1, rn, false, 0, 0, 0, 0⟩ [.int .i64 1, .string rn, .bool false, .int .i64 0, .int .u64 0, .int .u64 0, .int .i64 0] (fun k => w.heap.size ≤ k) (fun _ => False) rfl rfl (kOp_mkM _ _ _ ⟨1, rn, false, 0, 0, 0, 0⟩) (fun _ hk => hk.elim) (fun k hk => Nat.le_trans B1.out.size hk) R1.out B1.out B1.out.size (by have := LEN.out; (try simp only [List.length_append, List.length_cons, List.length_nil]); omega) ?_; intro v2 w2 hR hB hG hat; have X2 := Aside0.mk (blk_grown X1.out hG (Kd.R_ne R1.out X1.out (by decide))); have R2 := Aside0.mk hR; have B2 := Aside0.mk hB; have b1_2 : w2.cell? ⟨wr.heap.size, 1, none⟩ = some (.int .u8 it.f1) := (blk_cell X2.out 1).trans rfl; have b5_2 : w2.cell? ⟨wr.heap.size, 5, none⟩ = some (.int .u64 it.f5) := (blk_cell X2.out 5).trans rfl; clear hR hB hG hat) | (at_builtin; refine Kd.R_append kOp (w0 := w) w.heap.size rfl (.tmp 71) (.tmp 75) 36 71 (.agg #[.int .i64 0, .string ⟨#[]⟩, .bool false, .int .i64 0, .int .u64 0, .int .u64 0, .int .i64 0]) 64 rfl Tryd.underlying36 info71 rfl (by decide) (by decide) v2 (ops ++ [⟨1, rn, false, 0, 0, 0, 0⟩]) ⟨6, ⟨#[]⟩, false, 0, it.f5, 0, 0⟩ [.int .i64 6, .string ⟨#[]⟩, .bool false, .int .i64 0, .int .u64 it.f5, .int .u64 0, .int .i64 0] (fun k => w.heap.size ≤ k) (fun _ => False) rfl rfl (kOp_mkM _ _ _ ⟨6, ⟨#[]⟩, false, 0, it.f5, 0, 0⟩) (fun _ hk => hk.elim) (fun k hk => Nat.le_trans B2.out.size hk) R2.out B2.out B2.out.size (by have := LEN.out; (try simp only [List.length_append, List.length_cons, List.length_nil]); omega) ?_; intro v3 w3 hR hB hG hat; have X3 := Aside0.mk (blk_grown X2.out hG (Kd.R_ne R2.out X2.out (by decide))); have R3 := Aside0.mk hR; have B3 := Aside0.mk hB; clear hR hB hG hat))
        go_roundg (l.length - (i + 1))
        case measure => have := HK.out; have := HI2.out; omega
        case rel => exact ⟨i + 1, ops ++ [⟨1, rn, false, 0, 0, 0, 0⟩] ++ [⟨6, ⟨#[]⟩, false, 0, it.f5, 0, 0⟩], by first | rfl | (simp; done) | (simp [c4]; done), ⟨by have := HI2.out; omega⟩, ⟨lp_leaf LP.out HD.out rfl _ _ (good_zero 1 (.inl rfl) rn HRN.out.1 HRN.out.2) (good_val _ _ _ _ _ _ _ (.inr (.inr (.inr (.inl rfl)))) (by decide) (by decide) (by decide) ONE.out.u0 ONE.out.u1 (by decide) (by decide)) rfl (show (2 : Int) ≤ 6 by decide) (show (6 : Int) ≤ 7 by decide) (by omega)⟩, R3, B3⟩
      · go_wp2_with (first | (go_at_call_of 25 (it.f0); go_must (refine (HID.out _).mono ?_; rintro e1 w1 ⟨rfl, hd1⟩; have X1 := Aside0.mk (blk_below (blk_new wr (Obj.cells #[.string it.f0, .int .u8 it.f1, .bool it.f2, .string it.f3, .int .i64 it.f4, .int .u64 it.f5, .int .u64 it.f6, .bool it.f7, .slice A8 it.f8.length c8] 76)) hd1.below); have R1 := Aside0.mk (Kd.R_below (Kd.R_below HO.out (below_alloc (Below.refl _ _) _)) hd1.below); have B1 := Aside0.mk (below_then (below_alloc HB.out _) (by have := HB.out.size; simp; omega) hd1.below); clear hd1)) | (at_builtin; refine Kd.R_append kOp (w0 := w) w.heap.size rfl (.tmp 12) (.tmp 17) 36 71 (.agg #[.int .i64 0, .string ⟨#[]⟩, .bool false, .int .i64 0, .int .u64 0, .int .u64 0, .int .i64 0]) 64 rfl Tryd.underlying36 info71 rfl (by decide) (by decide) u3 (ops) ⟨1, rn, false, 0, 0, 0, 0⟩ [.int .i64 1, .string rn, .bool false, .int .i64 0, .int .u64 0, .int .u64 0, .int .i64 0] (fun k => w.heap.size ≤ k) (fun _ => False) rfl rfl (kOp_mkM _ _ _ ⟨1, rn, false, 0, 0, 0, 0⟩) (fun _ hk => hk.elim) (fun k hk => Nat.le_trans B1.out.size hk) R1.out B1.out B1.out.size (by have := LEN.out; (try simp only [List.length_append, List.length_cons, List.length_nil]); omega) ?_; intro v2 w2 hR hB hG hat; have X2 := Aside0.mk (blk_grown X1.out hG (Kd.R_ne R1.out X1.out (by decide))); have R2 := Aside0.mk hR; have B2 := Aside0.mk hB; have b1_2 : w2.cell? ⟨wr.heap.size, 1, none⟩ = some (.int .u8 it.f1) := (blk_cell X2.out 1).trans rfl; have b3_2 : w2.cell? ⟨wr.heap.size, 3, none⟩ = some (.string it.f3) := (blk_cell X2.out 3).trans rfl; clear hR hB hG hat) | (go_at_call_of 25 (it.f3); go_must (refine (HIS.out _).mono ?_; rintro e3 w3 ⟨rfl, hd1⟩; have X3 := Aside0.mk (blk_below X2.out hd1.below); have R3 := Aside0.mk (Kd.R_below R2.out hd1.below); have B3 := Aside0.mk (below_then B2.out B2.out.size hd1.below); clear hd1)) | (at_builtin; refine Kd.R_append kOp (w0 := w) w.heap.size rfl (.tmp 79) (.tmp 84) 36 71 (.agg #[.int .i64 0, .string ⟨#[]⟩, .bool false, .int .i64 0, .int .u64 0, .int .u64 0, .int .i64 0]) 64 rfl Tryd.underlying36 info71 rfl (by decide) (by decide) v2 (ops ++ [⟨1, rn, false, 0, 0, 0, 0⟩]) ⟨7, rs, false, 0, 0, 0, 0⟩ [.int .i64 7, .string rs, .bool false, .int .i64 0, .int .u64 0, .int .u64 0, .int .i64 0] (fun k => w.heap.size ≤ k) (fun _ => False) rfl rfl (kOp_mkM _ _ _ ⟨7, rs, false, 0, 0, 0, 0⟩) (fun _ hk => hk.elim) (fun k hk => Nat.le_trans B3.out.size hk) R3.out B3.out B3.out.size (by have := LEN.out; (try simp only [List.length_append, List.length_cons, List.length_nil]); omega) ?_; intro v4 w4 hR hB hG hat; have X4 := Aside0.mk (blk_grown X3.out hG (Kd.R_ne R3.out X3.out (by decide))); have R4 := Aside0.mk hR; have B4 := Aside0.mk hB; clear hR hB hG hat))
        go_roundg (l.length - (i + 1))
        case measure => have := HK.out; have := HI2.out; omega
        case rel => exact ⟨i + 1, ops ++ [⟨1, rn, false, 0, 0, 0, 0⟩] ++ [⟨7, rs, false, 0, 0, 0, 0⟩], by first | rfl | (simp; done) | (simp [c4]; done), ⟨by have := HI2.out; omega⟩, ⟨lp_leaf LP.out HD.out rfl _ _ (good_zero 1 (.inl rfl) rn HRN.out.1 HRN.out.2) (good_val _ _ _ _ _ _ _ (.inr (.inr (.inr (.inr (.inl ⟨rfl, HRS.out.1⟩))))) HRS.out.2 (by decide) (by decide) (by decide) (by decide) (by decide) (by decide)) rfl (show (2 : Int) ≤ 7 by decide) (show (7 : Int) ≤ 7 by decide) (by omega)⟩, R4, B4⟩
      · go_wp2_with (first | (go_at_call_of 25 (it.f0); go_must (refine (HID.out _).mono ?_; rintro e1 w1 ⟨rfl, hd1⟩; have X1 := Aside0.mk (blk_below (blk_new wr (Obj.cells #[.string it.f0, .int .u8 it.f1, .bool it.f2, .string it.f3, .int .i64 it.f4, .int .u64 it.f5, .int .u64 it.f6, .bool it.f7, .slice A8 it.f8.length c8] 76)) hd1.below); have R1 := Aside0.mk (Kd.R_below (Kd.R_below HO.out (below_alloc (Below.refl _ _) _)) hd1.below); have B1 := Aside0.mk (below_then (below_alloc HB.out _) (by have := HB.out.size; simp; omega) hd1.below); clear hd1)) | (at_builtin; refine Kd.R_append kOp (w0 := w) w.heap.size rfl (.tmp 12) (.tmp 17) 36 71 (.agg #[.int .i64 0, .string ⟨#[]⟩, .bool false, .int .i64 0, .int .u64 0, .int .u64 0, .int .i64 0]) 64 rfl Tryd.underlying36 info71 rfl (by decide) (by decide) u3 (ops) ⟨1, rn, false, 0, 0, 0, 0⟩ [.int .i64 1, .string rn, .bool false, .int .i64 0, .int .u64 0, .int .u64 0, .int .i64 0] (fun k => w.heap.size ≤ k) (fun _ => False) rfl rfl (kOp_mkM _ _ _ ⟨1, rn, false, 0, 0, 0, 0⟩) (fun _ hk => hk.elim) (fun k hk => Nat.le_trans B1.out.size hk) R1.out B1.out B1.out.size (by have := LEN.out; (try simp only [List.length_append, List.length_cons, List.length_nil]); omega) ?_; intro v2 w2 hR hB hG hat; have X2 := Aside0.mk (blk_grown X1.out hG (Kd.R_ne R1.out X1.out (by decide))); have R2 := Aside0.mk hR; have B2 := Aside0.mk hB; have b1_2 : w2.cell? ⟨wr.heap.size, 1, none⟩ = some (.int .u8 it.f1) := (blk_cell X2.out 1).trans rfl; have b8_2 : w2.cell? ⟨wr.heap.size, 8, none⟩ = some (.slice A8 it.f8.length c8) := (blk_cell X2.out 8).trans rfl; clear hR hB hG hat) | (at_builtin; refine Kd.R_append kOp (w0 := w) w.heap.size rfl (.tmp 22) (.tmp 24) 36 71 (.agg #[.int .i64 0, .string ⟨#[]⟩, .bool false, .int .i64 0, .int .u64 0, .int .u64 0, .int .i64 0]) 64 rfl Tryd.underlying36 info71 rfl (by decide) (by decide) v2 (ops ++ [⟨1, rn, false, 0, 0, 0, 0⟩]) ⟨8, ⟨#[]⟩, false, 0, 0, 0, 0⟩ [.int .i64 8, .string ⟨#[]⟩, .bool false, .int .i64 0, .int .u64 0, .int .u64 0, .int .i64 0] (fun k => w.heap.size ≤ k) (fun _ => False) rfl rfl (kOp_mkM _ _ _ ⟨8, ⟨#[]⟩, false, 0, 0, 0, 0⟩) (fun _ hk => hk.elim) (fun k hk => Nat.le_trans B2.out.size hk) R2.out B2.out B2.out.size (by have := LEN.out; (try simp only [List.length_append, List.length_cons, List.length_nil]); omega) ?_; intro v3_ w3 hR hB hG hat; have X3 := Aside0.mk (blk_grown X2.out hG (Kd.R_ne R2.out X2.out (by decide))); have R3 := Aside0.mk hR; have B3 := Aside0.mk hB; have b8_3 : w3.cell? ⟨wr.heap.size, 8, none⟩ = some (.slice A8 it.f8.length c8) := (blk_cell X3.out 8).trans rfl; clear hR hB hG hat) | (go_at_call 12; go_must (refine (IH.out _ _ _ (Kd.C_below HKID.out.1 B3.out) HKID.out.2).mono ?_; rintro e4 w4 ⟨vk, kops, rfl, hR, hb, hg, hn, -, hE, hB⟩; have X4 := Aside0.mk (blk_below X3.out hB); have R4 := Aside0.mk (Kd.R_below R3.out hB); have B4 := Aside0.mk (below_then B3.out B3.out.size hB); have HKO := Aside0.mk (And.intro hb (And.intro hg (And.intro hn hE))); clear hE; have hRR := Kd.R_reads hR; obtain ⟨AK, cK, rfl, hkl, hkc⟩ := hRR; have HKC := Aside0.mk hkc; clear hR hb hg hn hB hkl hkc)) | (at_builtin; refine Kd.R_append_rows kOp (Rr := kOp.K w4) (w0 := w) w.heap.size rfl (.tmp 26) (.tmp 29) 36 71 (.agg #[.int .i64 0, .string ⟨#[]⟩, .bool false, .int .i64 0, .int .u64 0, .int .u64 0, .int .i64 0]) 64 rfl Tryd.underlying36 info71 rfl (by decide) (by decide) v3_ (ops ++ [⟨1, rn, false, 0, 0, 0, 0⟩] ++ [⟨8, ⟨#[]⟩, false, 0, 0, 0, 0⟩]) kops AK kops.length cK (fun k => w.heap.size ≤ k) (fun _ => False) rfl rfl R4.out HKC.out (fun x cs h => by rw [kOp_open h]; exact kOp_mkM _ _ _ _) (fun _ hk => hk.elim) (fun k hk => Nat.le_trans B4.out.size hk) B4.out B4.out.size (by have := LEN.out; have := HKO.out.2.2.1; have := LENK.out; (try simp only [List.length_append, List.length_cons, List.length_nil]); omega) ?_; intro v5 w5 hR hB hG hat; have X5 := Aside0.mk (blk_grown X4.out hG (Kd.R_ne R4.out X4.out (by decide))); have R5 := Aside0.mk hR; have B5 := Aside0.mk hB; clear hR hB hG hat) | (at_builtin; refine Kd.R_append kOp (w0 := w) w.heap.size rfl (.tmp 31) (.tmp 33) 36 71 (.agg #[.int .i64 0, .string ⟨#[]⟩, .bool false, .int .i64 0, .int .u64 0, .int .u64 0, .int .i64 0]) 64 rfl Tryd.underlying36 info71 rfl (by decide) (by decide) v5 (ops ++ [⟨1, rn, false, 0, 0, 0, 0⟩] ++ [⟨8, ⟨#[]⟩, false, 0, 0, 0, 0⟩] ++ kops) ⟨9, ⟨#[]⟩, false, 0, 0, 0, 0⟩ [.int .i64 9, .string ⟨#[]⟩, .bool false, .int .i64 0, .int .u64 0, .int .u64 0, .int .i64 0] (fun k => w.heap.size ≤ k) (fun _ => False) rfl rfl (kOp_mkM _ _ _ ⟨9, ⟨#[]⟩, false, 0, 0, 0, 0⟩) (fun _ hk => hk.elim) (fun k hk => Nat.le_trans B5.out.size hk) R5.out B5.out B5.out.size (by have := LEN.out; have := HKO.out.2.2.1; have := LENK.out; (try simp only [List.length_append, List.length_cons, List.length_nil]); omega) ?_; intro v6 w6 hR hB hG hat; have X6 := Aside0.mk (blk_grown X5.out hG (Kd.R_ne R5.out X5.out (by decide))); have R6 := Aside0.mk hR; have B6 := Aside0.mk hB; clear hR hB hG hat))
        go_roundg (l.length - (i + 1))
        case measure => have := HK.out; have := HI2.out; omega
        case rel => exact ⟨i + 1, ops ++ [⟨1, rn, false, 0, 0, 0, 0⟩] ++ [⟨8, ⟨#[]⟩, false, 0, 0, 0, 0⟩] ++ kops ++ [⟨9, ⟨#[]⟩, false, 0, 0, 0, 0⟩], by first | rfl | (simp; done) | (simp [c4]; done), ⟨by have := HI2.out; omega⟩, ⟨lp_msg LP.out HD.out rfl _ _ _ _ (good_zero 1 (.inl rfl) rn HRN.out.1 HRN.out.2) (good_zero 8 (.inr (.inl rfl)) _ (by intro x hx; revert x; decide) (by decide)) (good_zero 9 (.inr (.inr rfl)) _ (by intro x hx; revert x; decide) (by decide)) rfl rfl rfl HKO.out.1 HKO.out.2.1 HKO.out.2.2.1 HKO.out.2.2.2 (by omega)⟩, R6, B6⟩
      · go_wp2_with (first | (go_at_call_of 25 (it.f0); go_must (refine (HID.out _).mono ?_; rintro e1 w1 ⟨rfl, hd1⟩; have X1 := Aside0.mk (blk_below (blk_new wr (Obj.cells #[.string it.f0, .int .u8 it.f1, .bool it.f2, .string it.f3, .int .i64 it.f4, .int .u64 it.f5, .int .u64 it.f6, .bool it.f7, .slice A8 it.f8.length c8] 76)) hd1.below); have R1 := Aside0.mk (Kd.R_below (Kd.R_below HO.out (below_alloc (Below.refl _ _) _)) hd1.below); have B1 := Aside0.mk (below_then (below_alloc HB.out _) (by have := HB.out.size; simp; omega) hd1.below); clear hd1)) | (at_builtin; refine Kd.R_append kOp (w0 := w) w.heap.size rfl (.tmp 12) (.tmp 17) 36 71 (.agg #[.int .i64 0, .string ⟨#[]⟩, .bool false, .int .i64 0, .int .u64 0, .int .u64 0, .int .i64 0]) 64 rfl Tryd.underlying36 info71 rfl (by decide) (by decide) u3 (ops) ⟨1, rn, false, 0, 0, 0, 0⟩ [.int .i64 1, .string rn, .bool false, .int .i64 0, .int .u64 0, .int .u64 0, .int .i64 0] (fun k => w.heap.size ≤ k) (fun _ => False) rfl rfl (kOp_mkM _ _ _ ⟨1, rn, false, 0, 0, 0, 0⟩) (fun _ hk => hk.elim) (fun k hk => Nat.le_trans B1.out.size hk) R1.out B1.out B1.out.size (by have := LEN.out; (try simp only [List.length_append, List.length_cons, List.length_nil]); omega) ?_; intro v2 w2 hR hB hG hat; have X2 := Aside0.mk (blk_grown X1.out hG (Kd.R_ne R1.out X1.out (by decide))); have R2 := Aside0.mk hR; have B2 := Aside0.mk hB; have b1_2 : w2.cell? ⟨wr.heap.size, 1, none⟩ = some (.int .u8 it.f1) := (blk_cell X2.out 1).trans rfl; have b8_2 : w2.cell? ⟨wr.heap.size, 8, none⟩ = some (.slice A8 it.f8.length c8) := (blk_cell X2.out 8).trans rfl; clear hR hB hG hat) | (at_builtin; refine Kd.R_append kOp (w0 := w) w.heap.size rfl (.tmp 22) (.tmp 24) 36 71 (.agg #[.int .i64 0, .string ⟨#[]⟩, .bool false, .int .i64 0, .int .u64 0, .int .u64 0, .int .i64 0]) 64 rfl Tryd.underlying36 info71 rfl (by decide) (by decide) v2 (ops ++ [⟨1, rn, false, 0, 0, 0, 0⟩]) ⟨8, ⟨#[]⟩, false, 0, 0, 0, 0⟩ [.int .i64 8, .string ⟨#[]⟩, .bool false, .int .i64 0, .int .u64 0, .int .u64 0, .int .i64 0] (fun k => w.heap.size ≤ k) (fun _ => False) rfl rfl (kOp_mkM _ _ _ ⟨8, ⟨#[]⟩, false, 0, 0, 0, 0⟩) (fun _ hk => hk.elim) (fun k hk => Nat.le_trans B2.out.size hk) R2.out B2.out B2.out.size (by have := LEN.out; (try simp only [List.length_append, List.length_cons, List.length_nil]); omega) ?_; intro v3_ w3 hR hB hG hat; have X3 := Aside0.mk (blk_grown X2.out hG (Kd.R_ne R2.out X2.out (by decide))); have R3 := Aside0.mk hR; have B3 := Aside0.mk hB; have b8_3 : w3.cell? ⟨wr.heap.size, 8, none⟩ = some (.slice A8 it.f8.length c8) := (blk_cell X3.out 8).trans rfl; clear hR hB hG hat) | (go_at_call 12; go_must (refine (IH.out _ _ _ (Kd.C_below HKID.out.1 B3.out) HKID.out.2).mono ?_; rintro e4 w4 ⟨vk, kops, rfl, hR, hb, hg, hn, -, hE, hB⟩; have X4 := Aside0.mk (blk_below X3.out hB); have R4 := Aside0.mk (Kd.R_below R3.out hB); have B4 := Aside0.mk (below_then B3.out B3.out.size hB); have HKO := Aside0.mk (And.intro hb (And.intro hg (And.intro hn hE))); clear hE; have hRR := Kd.R_reads hR; obtain ⟨AK, cK, rfl, hkl, hkc⟩ := hRR; have HKC := Aside0.mk hkc; clear hR hb hg hn hB hkl hkc)) | (at_builtin; refine Kd.R_append_rows kOp (Rr := kOp.K w4) (w0 := w) w.heap.size rfl (.tmp 26) (.tmp 29) 36 71 (.agg #[.int .i64 0, .string ⟨#[]⟩, .bool false, .int .i64 0, .int .u64 0, .int .u64 0, .int .i64 0]) 64 rfl Tryd.underlying36 info71 rfl (by decide) (by decide) v3_ (ops ++ [⟨1, rn, false, 0, 0, 0, 0⟩] ++ [⟨8, ⟨#[]⟩, false, 0, 0, 0, 0⟩]) kops AK kops.length cK (fun k => w.heap.size ≤ k) (fun _ => False) rfl rfl R4.out HKC.out (fun x cs h => by rw [kOp_open h]; exact kOp_mkM _ _ _ _) (fun _ hk => hk.elim) (fun k hk => Nat.le_trans B4.out.size hk) B4.out B4.out.size (by have := LEN.out; have := HKO.out.2.2.1; have := LENK.out; (try simp only [List.length_append, List.length_cons, List.length_nil]); omega) ?_; intro v5 w5 hR hB hG hat; have X5 := Aside0.mk (blk_grown X4.out hG (Kd.R_ne R4.out X4.out (by decide))); have R5 := Aside0.mk hR; have B5 := Aside0.mk hB; clear hR hB hG hat) | (at_builtin; refine Kd.R_append kOp (w0 := w) w.heap.size rfl (.tmp 31) (.tmp 33) 36 71 (.agg #[.int .i64 0, .string ⟨#[]⟩, .bool false, .int .i64 0, .int .u64 0, .int .u64 0, .int .i64 0]) 64 rfl Tryd.underlying36 info71 rfl (by decide) (by decide) v5 (ops ++ [⟨1, rn, false, 0, 0, 0, 0⟩] ++ [⟨8, ⟨#[]⟩, false, 0, 0, 0, 0⟩] ++ kops) ⟨9, ⟨#[]⟩, false, 0, 0, 0, 0⟩ [.int .i64 9, .string ⟨#[]⟩, .bool false, .int .i64 0, .int .u64 0, .int .u64 0, .int .i64 0] (fun k => w.heap.size ≤ k) (fun _ => False) rfl rfl (kOp_mkM _ _ _ ⟨9, ⟨#[]⟩, false, 0, 0, 0, 0⟩) (fun _ hk => hk.elim) (fun k hk => Nat.le_trans B5.out.size hk) R5.out B5.out B5.out.size (by have := LEN.out; have := HKO.out.2.2.1; have := LENK.out; (try simp only [List.length_append, List.length_cons, List.length_nil]); omega) ?_; intro v6 w6 hR hB hG hat; have X6 := Aside0.mk (blk_grown X5.out hG (Kd.R_ne R5.out X5.out (by decide))); have R6 := Aside0.mk hR; have B6 := Aside0.mk hB; clear hR hB hG hat))
        go_roundg (l.length - (i + 1))
        case measure => have := HK.out; have := HI2.out; omega
        case rel => exact ⟨i + 1, ops ++ [⟨1, rn, false, 0, 0, 0, 0⟩] ++ [⟨8, ⟨#[]⟩, false, 0, 0, 0, 0⟩] ++ kops ++ [⟨9, ⟨#[]⟩, false, 0, 0, 0, 0⟩], by first | rfl | (simp; done) | (simp [c4]; done), ⟨by have := HI2.out; omega⟩, ⟨lp_msg LP.out HD.out rfl _ _ _ _ (good_zero 1 (.inl rfl) rn HRN.out.1 HRN.out.2) (good_zero 8 (.inr (.inl rfl)) _ (by intro x hx; revert x; decide) (by decide)) (good_zero 9 (.inr (.inr rfl)) _ (by intro x hx; revert x; decide) (by decide)) rfl rfl rfl HKO.out.1 HKO.out.2.1 HKO.out.2.2.1 HKO.out.2.2.2 (by omega)⟩, R6, B6⟩
    · have hin : i = l.length := by have := HK.out; omega
      subst hin
      have c0 : decide ((l.length : Int) < (l.length : Int)) = false := decide_eq_false (by omega)
      clear hi
      go_wp2_with fail
      go_ret
      refine ⟨_, ops, rfl, HO.out, LP.out.bal, LP.out.good, ?_, fun h => LP.out.ne (List.length_pos_iff.2 h), ?_, HB.out⟩
      · have := LP.out.len
        omega
      · have := LP.out.lenE
        rw [List.drop_length, olen] at this
        omega

end Go.Proofs.YtdggjpdhbailpaaDoor.To1
