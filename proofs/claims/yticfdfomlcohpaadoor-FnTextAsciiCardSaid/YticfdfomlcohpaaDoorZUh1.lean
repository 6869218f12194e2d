/- AppendUint at base 16, numbers below 2^24: digits are appended. Conditions: the row that is appended to is the call's own; the table deBruijn64tab reads as laid. -/
import Derived.Test.YticfdfomlcohpaaDoorZUi2
import Derived.Deep.AppendLies
import Derived.Deep.LoopGhost
import Derived.Laws.Bits64b
import Derived.Outline
import Derived.Deep.DeepMust
namespace Go.Proofs.YticfdfomlcohpaaDoor.Uh
set_option linter.unusedSimpArgs false
set_option linter.unusedVariables false
open Go.RowKit Go.Proofs.YticfdfomlcohpaaDoorW.PrintWords Go.Proofs.YticfdfomlcohpaaDoorW.PrintLast Go.Proofs.YticfdfomlcohpaaDoorW.PrintMore Go.Proofs.YticfdfomlcohpaaDoor.As1 Go.Proofs.YticfdfomlcohpaaDoor.Ui2 Go.Proofs.YticfdfomlcohpaaDoor.PFnTextAscii

def Tz (w : World) : Prop := w.cell? ⟨6, 15, none⟩ = some (.int .u8 4)
theorem Tz.on {w w' : World} (h : Tz w) (hb : Below w.heap.size w w') : Tz w' := pw_cell_below hb h
theorem key16 : IntKind.u64.wrap (bits .and .u64 16 (IntKind.u64.wrap (-16)) * 285870213051353865) / 288230376151711744 = 15 := by decide +kernel

theorem tz64 (w : World) (h : Tz w) : Calls Tryd.prog 116 #[.int .u64 16] w fun e w' => e = .returned (.int .i64 4) ∧ w' = w := by
  have hc : w.cell? ⟨6, 15, none⟩ = some (.int .u8 4) := h
  have key := key16
  clear h
  go_enter Tryd.func116, Tryd.ntmps116
  go_wp2_with (simp only [key])
  go_ret
  exact ⟨rfl, rfl⟩
theorem tz (w : World) (h : Tz w) : Calls Tryd.prog 100 #[.int .u64 16] w fun e w' => e = .returned (.int .i64 4) ∧ w' = w := by
  have H := Aside0.mk h
  clear h
  go_enter Tryd.func100, Tryd.ntmps100
  go_wp2_with (go_at_call 116; go_must (refine (tz64 _ H.out).mono ?_; rintro e w1 ⟨rfl, rfl⟩))
  go_ret
  exact ⟨rfl, rfl⟩
theorem pow2 (w : World) : Calls Tryd.prog 99 #[.int .i64 16] w fun e w' => e = .returned (.bool true) ∧ w' = w := by
  go_enter Tryd.func99, Tryd.ntmps99
  go_wp2
  go_ret
  exact ⟨rfl, rfl⟩

def HexRow (W : World) (g : Nat) (j : Nat) : Prop := ∃ cs : Array Value, W.heap[g]? = some (.cells cs 150 (0, 0)) ∧ cs.size = 65 ∧ ∀ i, j ≤ i → i < 65 → ∃ x : Int, cs[i]? = some (.int .u8 x) ∧ 0 ≤ x ∧ x < 128
theorem HexRow.put {W : World} {g j : Nat} (h : HexRow W g (j + 1)) (hj : j < 65) (x : Int) (h0 : 0 ≤ x) (h1 : x < 128) : HexRow (W.setCell ⟨g, j, none⟩ (.int .u8 x)) g j := by
  obtain ⟨cs, hb, hs, hc⟩ := h
  refine ⟨_, blk_set hb j _, by simpa using hs, fun i hi hl => ?_⟩
  by_cases e : i = j
  · subst e
    exact ⟨x, by simp [hs, hj], h0, h1⟩
  · obtain ⟨y, hy, y0, y1⟩ := hc i (by omega) hl
    exact ⟨y, by rw [Array.getElem?_setIfInBounds, if_neg (fun h => e h.symm)]; exact hy, y0, y1⟩

theorem hex_list {W : World} {g q : Nat} (h : HexRow W g q) (hq : q < 65) : ∃ ys : List Int, ys.length = 65 - q ∧ (∀ x ∈ ys, 0 ≤ x ∧ x < 128) ∧ ∀ j y, ys[j]? = some y → W.cell? ((⟨g, q, none⟩ : Addr).add j) = some (.int .u8 y) := by
  obtain ⟨cs, hb, hs, hc⟩ := h
  have hx : ∀ i : Nat, ∃ x : Int, (q ≤ i → i < 65 → cs[i]? = some (.int .u8 x)) ∧ 0 ≤ x ∧ x < 128 := by
    intro i
    by_cases h1 : q ≤ i ∧ i < 65
    · obtain ⟨x, hx, a, b⟩ := hc i h1.1 h1.2
      exact ⟨x, fun _ _ => hx, a, b⟩
    · exact ⟨0, fun h2 h3 => absurd ⟨h2, h3⟩ h1, by decide, by decide⟩
  obtain ⟨f, hf⟩ := Classical.axiomOfChoice hx
  refine ⟨(List.range (65 - q)).map fun j => f (q + j), by simp, ?_, ?_⟩
  · intro x hx
    obtain ⟨j, _, rfl⟩ := List.mem_map.1 hx
    exact (hf _).2
  · intro j y hy
    simp only [List.getElem?_map, Option.map_eq_some_iff] at hy
    obtain ⟨i, hi, rfl⟩ := hy
    obtain ⟨hlt, e⟩ := List.getElem?_eq_some_iff.1 hi
    simp only [List.length_range] at hlt
    rw [List.getElem_range] at e
    subst e
    have := (hf (q + j)).1 (by omega) (by omega)
    rw [Addr.add_lit, blk_cell hb]
    exact this
theorem dig_ok (d : Nat) (h : d < (⟨#[48, 49, 50, 51, 52, 53, 54, 55, 56, 57, 97, 98, 99, 100, 101, 102, 103, 104, 105, 106, 107, 108, 109, 110, 111, 112, 113, 114, 115, 116, 117, 118, 119, 120, 121, 122]⟩ : ByteArray).size) : 0 ≤ (((⟨#[48, 49, 50, 51, 52, 53, 54, 55, 56, 57, 97, 98, 99, 100, 101, 102, 103, 104, 105, 106, 107, 108, 109, 110, 111, 112, 113, 114, 115, 116, 117, 118, 119, 120, 121, 122]⟩ : ByteArray)[d]'h).toNat : Int) ∧ (((⟨#[48, 49, 50, 51, 52, 53, 54, 55, 56, 57, 97, 98, 99, 100, 101, 102, 103, 104, 105, 106, 107, 108, 109, 110, 111, 112, 113, 114, 115, 116, 117, 118, 119, 120, 121, 122]⟩ : ByteArray)[d]'h).toNat : Int) < 128 := by
  have hd : d < 36 := h
  have key : ∀ i : Fin 36, ((#[48, 49, 50, 51, 52, 53, 54, 55, 56, 57, 97, 98, 99, 100, 101, 102, 103, 104, 105, 106, 107, 108, 109, 110, 111, 112, 113, 114, 115, 116, 117, 118, 119, 120, 121, 122] : Array UInt8)[i.val]'i.isLt).toNat < 128 := by decide
  exact ⟨Int.natCast_nonneg _, by have := key ⟨d, hd⟩; exact Int.ofNat_lt.2 this⟩
theorem and15 (u : Nat) (hu : u < 18446744073709551616) : Go.bits .and .u64 (u : Int) 15 = ((u % 16 : Nat) : Int) := by
  have h := bits_and_u64_nat u 15 hu (by decide)
  rw [show ((15 : Nat) : Int) = 15 from rfl] at h
  rw [h, Nat.and_two_pow_sub_one_eq_mod u 4]

set_option maxHeartbeats 1000000 in
set_option maxRecDepth 100000 in
theorem fb (u : Nat) (hu : u < 16777216) (P0 : Nat → Prop) (v : Value) (l : List Int) (w0 w : World) (hl : l.length + 100 ≤ 140737488355328) (hB : Below w0.heap.size w0 w) (ho : Kd.R (Kd.int .u8) 5 w w0.heap.size P0 v l) (hT : Tz w) :
    Calls Tryd.prog 85 #[v, .int .u64 u, .int .i64 16, .bool false, .bool true] w fun e w' => ∃ (r : List Int) (v' : Value), (∀ x ∈ r, 0 ≤ x ∧ x < 128) ∧ r.length ≤ 6 ∧ e = .returned (.tuple #[v', .string ⟨#[]⟩]) ∧ Kd.R (Kd.int .u8) 5 w' w0.heap.size (fun k => P0 k ∨ w.heap.size ≤ k) v' (l ++ r) ∧ Below w0.heap.size w0 w' ∧ Kept w w' P0 := by
  have HT := Aside0.mk hT
  have HO := Aside0.mk ho
  have HB := Aside0.mk hB
  have HL := Aside0.mk hl
  have HU := Aside0.mk hu
  clear hT ho hB hl hu
  go_enter Tryd.func85, Tryd.ntmps85
  go_wp2_with (first | (go_at_call 99; go_must (refine (pow2 _).mono ?_; rintro e1 w1 ⟨rfl, rfl⟩)) | (go_at_call 100; go_must (refine (tz _ (HT.out.on (below_alloc (Below.refl _ _) _))).mono ?_; rintro e2 w2 ⟨rfl, rfl⟩)))
  go_loopg [1, 13] 6 (fun k v1 v13 w' => ∃ (u' k' : Nat) (jI : Int), v1 = .int .u64 (u' : Int) ∧ v13 = .int .i64 jI ∧ Aside0 (k' = k ∧ jI = 59 + k' ∧ 1 ≤ k' ∧ k' ≤ 6 ∧ u' < 16 ^ k') ∧ Aside0 (HexRow w' w.heap.size (59 + k')) ∧ Aside0 (Below w.heap.size w w'))
  case atStart => exact ⟨u, 6, 65, rfl, rfl, ⟨⟨rfl, by decide, by decide, by decide, HU.out⟩⟩, ⟨⟨_, blk_new _ _, by decide, fun i h1 h2 => absurd h1 (by omega)⟩⟩, ⟨below_alloc (Below.refl _ _) _⟩⟩
  case round =>
    obtain ⟨u', k', jI, rfl, rfl, HN, HX, HY⟩ := hrel
    obtain ⟨cs, hcb, hcs, hcc⟩ := HX.out
    have hz : 58 + k' < 65 := by have := HN.out; omega
    obtain ⟨y, hy⟩ : ∃ y, cs[58 + k']? = some y := ⟨_, Array.getElem?_eq_getElem (by omega)⟩
    obtain ⟨q, hq⟩ : ∃ q : Nat, q = 58 + k' := ⟨_, rfl⟩
    have x1 : wr.cell? ⟨w.heap.size, q, none⟩ = some y := by rw [blk_cell hcb, hq]; exact hy
    have x2 : wr.frozen? ⟨w.heap.size, q, none⟩ = false := blk_frozen hcb q
    have j1 : wrap64 (jI - 1) = (q : Int) := by have := HN.out; unfold wrap64; omega
    have j2 : IntKind.i64.wrap (jI - 1) = (q : Int) := by have := HN.out; rw [IntKind.wrap_i64]; omega
    have p0 := eq_true (show (0 : Int) ≤ (q : Int) by omega)
    have p1 := eq_true (show (q : Int) < 65 by omega)
    have p2 : ((q : Int)).toNat = q := by omega
    have HQ := Aside0.mk hq
    clear hcb hcs hcc hz hy hq
    by_cases h16 : 16 ≤ u'
    · have b0 : decide ((16 : Int) ≤ (u' : Int)) = true := decide_eq_true (by omega)
      obtain ⟨d, hd⟩ : ∃ d : Nat, d = u' % 16 := ⟨_, rfl⟩
      have e1 : Go.bits .and .u64 (u' : Int) 15 = (d : Int) := by rw [hd]; exact and15 u' (by have := HN.out; have h6 : 16 ^ k' ≤ 16 ^ 6 := Nat.pow_le_pow_right (by decide) (by omega); omega)
      have d0 := eq_true (show (0 : Int) ≤ (d : Int) by omega)
      have d1 := eq_true (show (d : Int) < 36 by omega)
      have d2 : ((d : Int)).toNat = d := by omega
      have HK := Aside0.mk (And.intro h16 hd)
      clear h16 hd
      go_wp2_with fail
      go_roundg (gk - 1)
      case measure =>
        have := HN.out
        have hk2 : 2 ≤ k' := by
          rcases Nat.lt_or_ge k' 2 with h | h
          · have h1 : k' = 1 := by omega
            subst h1
            have := HK.out.1
            omega
          · exact h
        omega
      case rel =>
        have hn := HN.out
        have hk2 : 2 ≤ k' := by
          rcases Nat.lt_or_ge k' 2 with h | h
          · have h1 : k' = 1 := by omega
            subst h1
            have := HK.out.1
            omega
          · exact h
        have hq := HQ.out
        refine ⟨u' / 16, k' - 1, (q : Int), by simp, rfl, ⟨⟨by omega, by omega, by omega, by omega, ?_⟩⟩, ⟨?_⟩, ⟨HY.out.setCell (Nat.le_refl _) _⟩⟩
        · have e : 16 ^ k' = 16 ^ (k' - 1) * 16 := by rw [← Nat.pow_succ]; congr 1; omega
          have := hn.2.2.2.2
          rw [e] at this
          exact Nat.div_lt_of_lt_mul (by omega)
        · have h1 := HX.out
          rw [show 59 + k' = q + 1 by omega] at h1
          rw [show 59 + (k' - 1) = q by omega]
          exact h1.put (by omega) _ (dig_ok _ _).1 (dig_ok _ _).2
    · have b0 : decide ((16 : Int) ≤ (u' : Int)) = false := decide_eq_false (by omega)
      have d0 := eq_true (show (0 : Int) ≤ (u' : Int) by omega)
      have d1 := eq_true (show (u' : Int) < 36 by omega)
      have d2 : ((u' : Int)).toNat = u' := by omega
      have p3 : (q : Int) ≤ 65 := by have := HN.out; have := HQ.out; omega
      have p4 : q ≤ 65 := by omega
      have hd36 : u' < (⟨#[48, 49, 50, 51, 52, 53, 54, 55, 56, 57, 97, 98, 99, 100, 101, 102, 103, 104, 105, 106, 107, 108, 109, 110, 111, 112, 113, 114, 115, 116, 117, 118, 119, 120, 121, 122]⟩ : ByteArray).size := by show u' < 36; omega
      have hq65 : q < 65 := by have := HN.out; have := HQ.out; omega
      have hX2 : HexRow (wr.setCell ⟨w.heap.size, q, none⟩ (.int .u8 (((⟨#[48, 49, 50, 51, 52, 53, 54, 55, 56, 57, 97, 98, 99, 100, 101, 102, 103, 104, 105, 106, 107, 108, 109, 110, 111, 112, 113, 114, 115, 116, 117, 118, 119, 120, 121, 122]⟩ : ByteArray)[u']'hd36).toNat : Int))) w.heap.size q := by
        have h1 := HX.out
        rw [show 59 + k' = q + 1 by have := HQ.out; omega] at h1
        exact h1.put hq65 _ (dig_ok _ _).1 (dig_ok _ _).2
      obtain ⟨ys, hy1, hy2, hy3⟩ := hex_list hX2 hq65
      have HYS := Aside0.mk (And.intro hy1 (And.intro hy2 hy3))
      have HY2 : Aside0 (Below w.heap.size w (wr.setCell ⟨w.heap.size, q, none⟩ (.int .u8 (((⟨#[48, 49, 50, 51, 52, 53, 54, 55, 56, 57, 97, 98, 99, 100, 101, 102, 103, 104, 105, 106, 107, 108, 109, 110, 111, 112, 113, 114, 115, 116, 117, 118, 119, 120, 121, 122]⟩ : ByteArray)[u']'hd36).toNat : Int)))) := Aside0.mk (HY.out.setCell (Nat.le_refl _) _)
      have HQ65 := Aside0.mk hq65
      have p5 : ¬ (q = 65) := by omega
      have p6 : ¬ (65 = q) := by omega
      have p7 : ((65 : Int) - (q : Int)).toNat = 65 - q := by omega
      clear h16 hX2 hy1 hy2 hy3 hq65
      go_wp2_with (at_builtin; go_loud (refine wpList_app_row (w0 := w0) w0.heap.size rfl (.tmp 95) (.tmp 97) 29 5 rfl Tryd.underlying29 info5 P0 v l ys ⟨w.heap.size, q, none⟩ (65 - q) (65 - q) rfl (by first | rfl | (simp [Act.eval]; done)) HYS.out.1 (by have := HQ65.out; omega) HYS.out.2.2 (Kd.R_below HO.out HY2.out) (below_then HB.out HB.out.size HY2.out) (Nat.le_trans HB.out.size HY2.out.size) (by have := HL.out; omega) ?_; intro v1 w1 hR hB1 hK; have HR1 := Aside0.mk hR; have HB1 := Aside0.mk hB1; have HK1 := Aside0.mk hK; clear hR hB1 hK))
      go_ret2
      exact ⟨ys, HYS.out.2.1, by have := HYS.out.1; have := HN.out; have := HQ.out; omega, v1, rfl, Kd.R_mono HR1.out (fun k hk => hk.imp id (fun h => Nat.le_trans HY2.out.size h)), HB1.out, (Kept.of_below HY2.out P0).then_ HK1.out (fun _ h => .inl h)⟩

/-- AppendUint's result at base 16. -/
def HexP (w0 w : World) (P0 : Nat → Prop) (l : List Int) (e : Ending) (w' : World) : Prop := ∃ (r : List Int) (v' : Value), (∀ x ∈ r, 0 ≤ x ∧ x < 128) ∧ r.length ≤ 6 ∧ e = .returned v' ∧ Kd.R (Kd.int .u8) 5 w' w0.heap.size (fun k => P0 k ∨ w.heap.size ≤ k) v' (l ++ r) ∧ Below w0.heap.size w0 w' ∧ Kept w w' P0
theorem au16 (u : Nat) (hu : u < 16777216) (P0 : Nat → Prop) (v : Value) (l : List Int) (w0 w : World) (hl : l.length + 100 ≤ 140737488355328) (hB : Below w0.heap.size w0 w) (ho : Kd.R (Kd.int .u8) 5 w w0.heap.size P0 v l) (hT : Tz w) :
    Calls Tryd.prog 95 #[v, .int .u64 u, .int .i64 16] w (HexP w0 w P0 l) := by
  have HF := Aside0.mk (fb u hu P0 v l w0 w hl hB ho hT)
  clear hu hl hB ho hT
  go_enter Tryd.func95, Tryd.ntmps95
  go_wp2_with (go_at_call 85; go_must (refine HF.out.mono ?_; rintro e1 w1 ⟨r, v', h1, h2, rfl, h3, h4, h5⟩; have H := Aside0.mk (And.intro h1 (And.intro h2 (And.intro h3 (And.intro h4 h5)))); clear h1 h2 h3 h4 h5))
  go_ret
  exact ⟨r, v', H.out.1, H.out.2.1, rfl, H.out.2.2.1, H.out.2.2.2.1, H.out.2.2.2.2⟩
theorem aup16 (u : Nat) (hu : u < 16777216) (P0 : Nat → Prop) (v : Value) (l : List Int) (w0 w : World) (hl : l.length + 100 ≤ 140737488355328) (hB : Below w0.heap.size w0 w) (ho : Kd.R (Kd.int .u8) 5 w w0.heap.size P0 v l) (hT : Tz w) :
    Calls Tryd.prog 81 #[v, .int .u64 u, .int .i64 16] w (HexP w0 w P0 l) := by
  have HF := Aside0.mk (au16 u hu P0 v l w0 w hl hB ho hT)
  clear hu hl hB ho hT
  go_enter Tryd.func81, Tryd.ntmps81
  go_wp2_with (go_at_call 95; go_must (refine HF.out.mono ?_; rintro e1 w1 ⟨r, v', h1, h2, rfl, h3, h4, h5⟩; have H := Aside0.mk (And.intro h1 (And.intro h2 (And.intro h3 (And.intro h4 h5)))); clear h1 h2 h3 h4 h5))
  go_ret
  exact ⟨r, v', H.out.1, H.out.2.1, rfl, H.out.2.2.1, H.out.2.2.2.1, H.out.2.2.2.2⟩

end Go.Proofs.YticfdfomlcohpaaDoor.Uh
