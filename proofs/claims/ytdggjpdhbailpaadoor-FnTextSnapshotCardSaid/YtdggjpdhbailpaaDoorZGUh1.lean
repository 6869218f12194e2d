/- AppendUint at base 16, numbers below 2^24: its digits (hexL) are appended; the elder value stays. Conditions: the row that is appended to is the call's own; the table deBruijn64tab reads as laid. -/
import Derived.Test.YtdggjpdhbailpaaDoorZGUi5
import Derived.Deep.AppendLies
import Derived.Deep.LoopGhost
import Derived.Laws.Bits64b
import Derived.Outline
import Derived.Deep.DeepMust
namespace Go.Proofs.YtdggjpdhbailpaaDoor.Uh
set_option linter.unusedSimpArgs false
set_option linter.unusedVariables false
set_option linter.unusedSectionVars false
open Go.RowKit Go.Proofs.YtdggjpdhbailpaaDoorW.PrintWords Go.Proofs.YtdggjpdhbailpaaDoorW.PrintLast Go.Proofs.YtdggjpdhbailpaaDoorW.PrintMore Go.Proofs.YtdggjpdhbailpaaDoor.As1 Go.Proofs.YtdggjpdhbailpaaDoor.Ui2 Go.Proofs.YtdggjpdhbailpaaDoor.PFnTextAscii

def Tz (w : World) : Prop := w.cell? ⟨6, 15, none⟩ = some (.int .u8 4)
theorem Tz.on {w w' : World} (h : Tz w) (hb : Below w.heap.size w w') : Tz w' := pw_cell_below hb h
theorem key16 : IntKind.u64.wrap (bits .and .u64 16 (IntKind.u64.wrap (-16)) * 285870213051353865) / 288230376151711744 = 15 := by decide +kernel

theorem tz64 (w : World) (h : Tz w) : Calls Tryd.prog 116 #[.int .u64 16] w fun e w' => e = .returned (.int .i64 4) ∧ w' = w := by
  have hc : w.cell? ⟨6, 15, none⟩ = some (.int .u8 4) := h
  have key := key16
  clear h
  go_enter Tryd.func116, Tryd.ntmps116
  go_wp2_with (simp only [key])
  go_ret
  exact ⟨rfl, rfl⟩
theorem tz (w : World) (h : Tz w) : Calls Tryd.prog 100 #[.int .u64 16] w fun e w' => e = .returned (.int .i64 4) ∧ w' = w := by
  have H := Aside0.mk h
  clear h
  go_enter Tryd.func100, Tryd.ntmps100
  go_wp2_with (go_at_call 116; go_must (refine (tz64 _ H.out).mono ?_; rintro e w1 ⟨rfl, rfl⟩))
  go_ret
  exact ⟨rfl, rfl⟩
theorem pow2 (w : World) : Calls Tryd.prog 99 #[.int .i64 16] w fun e w' => e = .returned (.bool true) ∧ w' = w := by
  go_enter Tryd.func99, Tryd.ntmps99
  go_wp2
  go_ret
  exact ⟨rfl, rfl⟩

/-- A digit's letter. -/
def ch (d : Nat) : Int := if h : d < (⟨#[48, 49, 50, 51, 52, 53, 54, 55, 56, 57, 97, 98, 99, 100, 101, 102, 103, 104, 105, 106, 107, 108, 109, 110, 111, 112, 113, 114, 115, 116, 117, 118, 119, 120, 121, 122]⟩ : ByteArray).size then (((⟨#[48, 49, 50, 51, 52, 53, 54, 55, 56, 57, 97, 98, 99, 100, 101, 102, 103, 104, 105, 106, 107, 108, 109, 110, 111, 112, 113, 114, 115, 116, 117, 118, 119, 120, 121, 122]⟩ : ByteArray)[d]'h).toNat : Int) else 0
theorem ch_at (d : Nat) (h : d < (⟨#[48, 49, 50, 51, 52, 53, 54, 55, 56, 57, 97, 98, 99, 100, 101, 102, 103, 104, 105, 106, 107, 108, 109, 110, 111, 112, 113, 114, 115, 116, 117, 118, 119, 120, 121, 122]⟩ : ByteArray).size) : (((⟨#[48, 49, 50, 51, 52, 53, 54, 55, 56, 57, 97, 98, 99, 100, 101, 102, 103, 104, 105, 106, 107, 108, 109, 110, 111, 112, 113, 114, 115, 116, 117, 118, 119, 120, 121, 122]⟩ : ByteArray)[d]'h).toNat : Int) = ch d := by unfold ch; rw [dif_pos h]
/-- The digits at base 16. -/
def hexL : Nat → Nat → List Int
  | 0, u => [ch u]
  | k + 1, u => if u < 16 then [ch u] else hexL k (u / 16) ++ [ch (u % 16)]
theorem hexL_small (k u : Nat) (h : u < 16) : hexL k u = [ch u] := by
  cases k with
  | zero => rfl
  | succ k => rw [hexL, if_pos h]
theorem hexL_big (k u : Nat) (h : 16 ≤ u) : hexL (k + 1) u = hexL k (u / 16) ++ [ch (u % 16)] := by rw [hexL, if_neg (by omega)]

def HexRow (W : World) (g : Nat) (j : Nat) (ws : List Int) : Prop := ∃ cs : Array Value, W.heap[g]? = some (.cells cs 150 (0, 0)) ∧ cs.size = 65 ∧ ws.length = 65 - j ∧ ∀ (i : Nat) (y : Int), ws[i]? = some y → cs[j + i]? = some (.int .u8 y)
theorem HexRow.put {W : World} {g j : Nat} {ws : List Int} (h : HexRow W g (j + 1) ws) (hj : j < 65) (x : Int) : HexRow (W.setCell ⟨g, j, none⟩ (.int .u8 x)) g j (x :: ws) := by
  obtain ⟨cs, hb, hs, hl, hc⟩ := h
  refine ⟨_, blk_set hb j _, by simpa using hs, by rw [List.length_cons]; omega, fun i y hi => ?_⟩
  cases i with
  | zero =>
    rw [List.getElem?_cons_zero] at hi
    injection hi with hi
    subst hi
    simp [hs, hj]
  | succ i =>
    rw [List.getElem?_cons_succ] at hi
    have h1 := hc i y hi
    rw [Array.getElem?_setIfInBounds, if_neg (by omega)]
    rw [show j + (i + 1) = j + 1 + i by omega]
    exact h1
theorem hex_list {W : World} {g q : Nat} {ws : List Int} (h : HexRow W g q ws) : ∀ (j : Nat) (y : Int), ws[j]? = some y → W.cell? ((⟨g, q, none⟩ : Addr).add j) = some (.int .u8 y) := by
  obtain ⟨cs, hb, hs, hl, hc⟩ := h
  intro j y hy
  rw [Addr.add_lit, blk_cell hb]
  exact hc j y hy
theorem and15 (u : Nat) (hu : u < 18446744073709551616) : Go.bits .and .u64 (u : Int) 15 = ((u % 16 : Nat) : Int) := by
  have h := bits_and_u64_nat u 15 hu (by decide)
  rw [show ((15 : Nat) : Int) = 15 from rfl] at h
  rw [h, Nat.and_two_pow_sub_one_eq_mod u 4]

variable [γ_ : Gho]
set_option maxHeartbeats 1000000 in
set_option maxRecDepth 100000 in
theorem fb (u : Nat) (hu : u < 16777216) (P0 : Nat → Prop) (v : Value) (l : List Int) (w0 w : World) (hl : l.length + 100 ≤ 140737488355328) (hB : Below w0.heap.size w0 w) (ho : Kd.G (Kd.int .u8) 5 w w0.heap.size P0 v l) (hT : Tz w) :
    Calls Tryd.prog 85 #[v, .int .u64 u, .int .i64 16, .bool false, .bool true] w fun e w' => ∃ (v' : Value), (hexL 6 u).length ≤ 6 ∧ e = .returned (.tuple #[v', .string ⟨#[]⟩]) ∧ Kd.G (Kd.int .u8) 5 w' w0.heap.size (fun k => P0 k ∨ w.heap.size ≤ k) v' (l ++ hexL 6 u) ∧ Below w0.heap.size w0 w' ∧ Kept w w' P0 := by
  have HT := Aside0.mk hT
  have HO := Aside0.mk ho
  have HB := Aside0.mk hB
  have HL := Aside0.mk hl
  have HU := Aside0.mk hu
  clear hT ho hB hl hu
  go_enter Tryd.func85, Tryd.ntmps85
  go_wp2_with (first | (go_at_call 99; go_must (refine (pow2 _).mono ?_; rintro e1 w1 ⟨rfl, rfl⟩)) | (go_at_call 100; go_must (refine (tz _ (HT.out.on (below_alloc (Below.refl _ _) _))).mono ?_; rintro e2 w2 ⟨rfl, rfl⟩)))
  go_loopg [1, 13] 6 (fun k v1 v13 w' => ∃ (u' k' : Nat) (jI : Int) (ws : List Int), v1 = .int .u64 (u' : Int) ∧ v13 = .int .i64 jI ∧ Aside0 (k' = k ∧ jI = 59 + k' ∧ 1 ≤ k' ∧ k' ≤ 6 ∧ u' < 16 ^ k') ∧ Aside0 (hexL k' u' ++ ws = hexL 6 u) ∧ Aside0 (HexRow w' w.heap.size (59 + k') ws) ∧ Aside0 (Below w.heap.size w w'))
  case atStart => exact ⟨u, 6, 65, [], rfl, rfl, ⟨⟨rfl, by decide, by decide, by decide, HU.out⟩⟩, ⟨List.append_nil _⟩, ⟨⟨_, blk_new _ _, by decide, rfl, fun i y h1 => by cases h1⟩⟩, ⟨below_alloc (Below.refl _ _) _⟩⟩
  case round =>
    obtain ⟨u', k', jI, ws, rfl, rfl, HN, HEQ, HX, HY⟩ := hrel
    obtain ⟨cs, hcb, hcs, hcl, hcc⟩ := HX.out
    have hz : 58 + k' < 65 := by have := HN.out; omega
    obtain ⟨y, hy⟩ : ∃ y, cs[58 + k']? = some y := ⟨_, Array.getElem?_eq_getElem (by omega)⟩
    obtain ⟨q, hq⟩ : ∃ q : Nat, q = 58 + k' := ⟨_, rfl⟩
    have x1 : wr.cell? ⟨w.heap.size, q, none⟩ = some y := by rw [blk_cell hcb, hq]; exact hy
    have x2 : wr.frozen? ⟨w.heap.size, q, none⟩ = false := blk_frozen hcb q
    have j1 : wrap64 (jI - 1) = (q : Int) := by have := HN.out; unfold wrap64; omega
    have j2 : IntKind.i64.wrap (jI - 1) = (q : Int) := by have := HN.out; rw [IntKind.wrap_i64]; omega
    have p0 := eq_true (show (0 : Int) ≤ (q : Int) by omega)
    have p1 := eq_true (show (q : Int) < 65 by omega)
    have p2 : ((q : Int)).toNat = q := by omega
    have HQ := Aside0.mk hq
    clear hcb hcs hcl hcc hz hy hq
    by_cases h16 : 16 ≤ u'
    · have b0 : decide ((16 : Int) ≤ (u' : Int)) = true := decide_eq_true (by omega)
      obtain ⟨d, hd⟩ : ∃ d : Nat, d = u' % 16 := ⟨_, rfl⟩
      have e1 : Go.bits .and .u64 (u' : Int) 15 = (d : Int) := by rw [hd]; exact and15 u' (by have := HN.out; have h6 : 16 ^ k' ≤ 16 ^ 6 := Nat.pow_le_pow_right (by decide) (by omega); omega)
      have d0 := eq_true (show (0 : Int) ≤ (d : Int) by omega)
      have d1 := eq_true (show (d : Int) < 36 by omega)
      have d2 : ((d : Int)).toNat = d := by omega
      have HK := Aside0.mk (And.intro h16 hd)
      clear h16 hd
      go_wp2_with fail
      go_roundg (gk - 1)
      case measure =>
        have := HN.out
        have hk2 : 2 ≤ k' := by
          rcases Nat.lt_or_ge k' 2 with h | h
          · have h1 : k' = 1 := by omega
            subst h1
            have := HK.out.1
            omega
          · exact h
        omega
      case rel =>
        have hn := HN.out
        have hk2 : 2 ≤ k' := by
          rcases Nat.lt_or_ge k' 2 with h | h
          · have h1 : k' = 1 := by omega
            subst h1
            have := HK.out.1
            omega
          · exact h
        have hq := HQ.out
        refine ⟨u' / 16, k' - 1, (q : Int), ch d :: ws, by simp, rfl, ⟨⟨by omega, by omega, by omega, by omega, ?_⟩⟩, ⟨?_⟩, ⟨?_⟩, ⟨HY.out.setCell (Nat.le_refl _) _⟩⟩
        · have e : 16 ^ k' = 16 ^ (k' - 1) * 16 := by rw [← Nat.pow_succ]; congr 1; omega
          have := hn.2.2.2.2
          rw [e] at this
          exact Nat.div_lt_of_lt_mul (by omega)
        · have h2 := hexL_big (k' - 1) u' HK.out.1
          rw [show k' - 1 + 1 = k' by omega] at h2
          have h3 := HEQ.out
          rw [h2, List.append_assoc, List.singleton_append, ← HK.out.2] at h3
          exact h3
        · have h1 := HX.out
          rw [show 59 + k' = q + 1 by omega] at h1
          rw [show 59 + (k' - 1) = q by omega]
          rw [← ch_at]
          exact h1.put (by omega) _
    · have b0 : decide ((16 : Int) ≤ (u' : Int)) = false := decide_eq_false (by omega)
      have d0 := eq_true (show (0 : Int) ≤ (u' : Int) by omega)
      have d1 := eq_true (show (u' : Int) < 36 by omega)
      have d2 : ((u' : Int)).toNat = u' := by omega
      have p3 : (q : Int) ≤ 65 := by have := HN.out; have := HQ.out; omega
      have p4 : q ≤ 65 := by omega
      have hd36 : u' < (⟨#[48, 49, 50, 51, 52, 53, 54, 55, 56, 57, 97, 98, 99, 100, 101, 102, 103, 104, 105, 106, 107, 108, 109, 110, 111, 112, 113, 114, 115, 116, 117, 118, 119, 120, 121, 122]⟩ : ByteArray).size := by show u' < 36; omega
      have hq65 : q < 65 := by have := HN.out; have := HQ.out; omega
      have hX2 : HexRow (wr.setCell ⟨w.heap.size, q, none⟩ (.int .u8 (((⟨#[48, 49, 50, 51, 52, 53, 54, 55, 56, 57, 97, 98, 99, 100, 101, 102, 103, 104, 105, 106, 107, 108, 109, 110, 111, 112, 113, 114, 115, 116, 117, 118, 119, 120, 121, 122]⟩ : ByteArray)[u']'hd36).toNat : Int))) w.heap.size q (ch u' :: ws) := by
        have h1 := HX.out
        rw [show 59 + k' = q + 1 by have := HQ.out; omega] at h1
        rw [← ch_at u' hd36]
        exact h1.put hq65 _
      have hx2 : ch u' :: ws = hexL 6 u := by have := HEQ.out; rwa [hexL_small k' u' (by omega)] at this
      rw [hx2] at hX2
      have hy1 : (hexL 6 u).length = 65 - q := by obtain ⟨_, _, _, h, _⟩ := hX2; exact h
      obtain ⟨ys, hys⟩ : ∃ ys, ys = hexL 6 u := ⟨_, rfl⟩
      rw [← hys] at hX2 hy1
      have HYQ := Aside0.mk hys
      clear hys
      have HYS := Aside0.mk (And.intro hy1 (hex_list hX2))
      have HY2 : Aside0 (Below w.heap.size w (wr.setCell ⟨w.heap.size, q, none⟩ (.int .u8 (((⟨#[48, 49, 50, 51, 52, 53, 54, 55, 56, 57, 97, 98, 99, 100, 101, 102, 103, 104, 105, 106, 107, 108, 109, 110, 111, 112, 113, 114, 115, 116, 117, 118, 119, 120, 121, 122]⟩ : ByteArray)[u']'hd36).toNat : Int)))) := Aside0.mk (HY.out.setCell (Nat.le_refl _) _)
      have HQ65 := Aside0.mk hq65
      have p5 : ¬ (q = 65) := by omega
      have p6 : ¬ (65 = q) := by omega
      have p7 : ((65 : Int) - (q : Int)).toNat = 65 - q := by omega
      clear h16 hX2 hy1 hx2 hq65 HEQ HX
      go_wp2_with (at_builtin; go_loud (refine wpList_app_row (w0 := w0) w0.heap.size rfl (.tmp 95) (.tmp 97) 29 5 rfl Tryd.underlying29 info5 P0 v l ys ⟨w.heap.size, q, none⟩ (65 - q) (65 - q) rfl (by first | rfl | (simp [Act.eval]; done)) HYS.out.1 (by have := HQ65.out; omega) HYS.out.2 (Kd.G_below HO.out HY2.out) (below_then HB.out HB.out.size HY2.out) (Nat.le_trans HB.out.size HY2.out.size) (by have := HL.out; omega) ?_; intro v1 w1 hR hB1 hK; have HR1 := Aside0.mk hR; have HB1 := Aside0.mk hB1; have HK1 := Aside0.mk hK; clear hR hB1 hK))
      go_ret2
      exact ⟨by rw [← HYQ.out]; have := HYS.out.1; have := HN.out; have := HQ.out; omega, v1, rfl, by rw [← HYQ.out]; exact Kd.G_mono HR1.out (fun k hk => hk.imp id (fun h => Nat.le_trans HY2.out.size h)), HB1.out, (Kept.of_below HY2.out P0).then_ HK1.out (fun _ h => .inl h)⟩

/-- What a call that appends r leaves. -/
def AddP (w0 w : World) (P0 : Nat → Prop) (l r : List Int) (e : Ending) (w' : World) : Prop := ∃ v' : Value, e = .returned v' ∧ Kd.G (Kd.int .u8) 5 w' w0.heap.size (fun k => P0 k ∨ w.heap.size ≤ k) v' (l ++ r) ∧ Below w0.heap.size w0 w' ∧ Kept w w' P0
theorem au16 (u : Nat) (hu : u < 16777216) (P0 : Nat → Prop) (v : Value) (l : List Int) (w0 w : World) (hl : l.length + 100 ≤ 140737488355328) (hB : Below w0.heap.size w0 w) (ho : Kd.G (Kd.int .u8) 5 w w0.heap.size P0 v l) (hT : Tz w) :
    Calls Tryd.prog 95 #[v, .int .u64 u, .int .i64 16] w fun e w' => (hexL 6 u).length ≤ 6 ∧ AddP w0 w P0 l (hexL 6 u) e w' := by
  have HF := Aside0.mk (fb u hu P0 v l w0 w hl hB ho hT)
  clear hu hl hB ho hT
  go_enter Tryd.func95, Tryd.ntmps95
  go_wp2_with (go_at_call 85; go_must (refine HF.out.mono ?_; rintro e1 w1 ⟨v', h2, rfl, h3, h4, h5⟩; have H := Aside0.mk (And.intro h2 (And.intro h3 (And.intro h4 h5))); clear h2 h3 h4 h5))
  go_ret
  exact ⟨H.out.1, v', rfl, H.out.2.1, H.out.2.2.1, H.out.2.2.2⟩
theorem aup16 (u : Nat) (hu : u < 16777216) (P0 : Nat → Prop) (v : Value) (l : List Int) (w0 w : World) (hl : l.length + 100 ≤ 140737488355328) (hB : Below w0.heap.size w0 w) (ho : Kd.G (Kd.int .u8) 5 w w0.heap.size P0 v l) (hT : Tz w) :
    Calls Tryd.prog 81 #[v, .int .u64 u, .int .i64 16] w fun e w' => (hexL 6 u).length ≤ 6 ∧ AddP w0 w P0 l (hexL 6 u) e w' := by
  have HF := Aside0.mk (au16 u hu P0 v l w0 w hl hB ho hT)
  clear hu hl hB ho hT
  go_enter Tryd.func81, Tryd.ntmps81
  go_wp2_with (go_at_call 95; go_must (refine HF.out.mono ?_; rintro e1 w1 ⟨h1, v', rfl, h3, h4, h5⟩; have H := Aside0.mk (And.intro h1 (And.intro h3 (And.intro h4 h5))); clear h1 h3 h4 h5))
  go_ret
  exact ⟨H.out.1, v', rfl, H.out.2.1, H.out.2.2.1, H.out.2.2.2⟩

end Go.Proofs.YtdggjpdhbailpaaDoor.Uh
