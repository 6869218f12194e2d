/- The law FnTextAscii returns true. Conditions: the numbers of the items are of their kinds; the tables pow10Tab, uint64pow10, deBruijn64tab and those of package utf8 read as laid. -/
import Derived.Test.YticfdfomlcohpaaDoorZTe2
import Derived.Test.YticfdfomlcohpaaDoorZTo1
import Derived.Test.YticfdfomlcohpaaDoorZFp
import Derived.Test.YticfdfomlcohpaaDoorZUi6
import Derived.Test.YticfdfomlcohpaaDoorZEs1
import Derived.Test.YticfdfomlcohpaaDoorZAf3
namespace Go.Proofs.YticfdfomlcohpaaDoor.La
set_option linter.unusedSimpArgs false
set_option linter.unusedVariables false
open Go.RowKit Go.Proofs.YticfdfomlcohpaaDoorW.PrintWords Go.Proofs.YticfdfomlcohpaaDoorW.PrintLast Go.Proofs.YticfdfomlcohpaaDoorW.PrintMore Go.Proofs.YticfdfomlcohpaaDoor.Bl Go.Proofs.YticfdfomlcohpaaDoor.Ok Go.Proofs.YticfdfomlcohpaaDoor.It Go.Proofs.YticfdfomlcohpaaDoor.Fp Go.Proofs.YticfdfomlcohpaaDoor.Zt Go.Proofs.YticfdfomlcohpaaDoor.Pn2 Go.Proofs.YticfdfomlcohpaaDoor.Wr Go.Proofs.YticfdfomlcohpaaDoor.Td2 Go.Proofs.YticfdfomlcohpaaDoor.PFnTextAscii

structure Tabs (w : World) : Prop where
  p : Sf2.Pow w
  t : Ft1.Tab w
  z : Uh.Tz w
  u : Lib.Utf8Tabs 3 4 w
theorem Tabs.on {w w' : World} (h : Tabs w) (hb : Below w.heap.size w w') : Tabs w' := ⟨h.p.on hb, h.t.on hb, h.z.on hb, Utf8Tabs_below h.u hb⟩

theorem apps (w0 : World) (h : Tabs w0) : Apps w0 where
  fl := fun n sz hn hs w1 v l P0 hB ho hP hl => (Af3.float_out n hn sz hs P0 v l w0 w1 (by omega) hB ho hP (h.p.on hB) (h.t.on hB)).mono fun e w' ⟨r, v', r1, r2, h1, h2, h3, h4⟩ => ⟨r, v', ⟨r1, by omega⟩, h1, h2, h3, h4⟩
  it := fun i i0 i1 w1 v l P0 hB ho hP hl => (Ui6.aip i i0 i1 P0 v l w0 w1 (by omega) hB ho h.t).mono fun e w' ⟨r, v', r1, r2, h1, h2, h3, h4⟩ => ⟨r, v', ⟨r1, by omega⟩, h1, h2, h3, h4⟩
  ut := fun u u0 u1 w1 v l P0 hB ho hP hl => by
    obtain ⟨n, rfl⟩ := Int.eq_ofNat_of_zero_le u0
    have hd := Ui6.decs_ok n (by omega)
    exact (Ui4.aup n (by omega) P0 v l w0 w1 (by omega) hB ho (h.t.on hB)).mono fun e w' ⟨v', h1, h2, h3, h4⟩ => ⟨_, v', ⟨hd.1, by have := hd.2; omega⟩, h1, h2, h3, h4⟩
  st := fun s hs w1 v l P0 hB ho hP hl => (Es1.str s hs P0 v l w0 w1 hl hB ho h.z h.u).mono fun e w' ⟨r, v', r1, h1, h2, h3, h4⟩ => ⟨r, v', r1, h1, h2, h3, h4⟩

/-- An item's numbers are of their kinds. -/
def Rg (x : S76) : Prop := (0 ≤ x.f1 ∧ x.f1 < 256) ∧ (-9223372036854775808 ≤ x.f4 ∧ x.f4 ≤ 9223372036854775807) ∧ (0 ≤ x.f5 ∧ x.f5 < 18446744073709551616) ∧ (0 ≤ x.f6 ∧ x.f6 < 18446744073709551616)
theorem one_of (x : S76) (h : Rg x) (k : Sh x) : One x := ⟨k.1, k.2, h.1.1, h.1.2, h.2.1.1, h.2.1.2, h.2.2.1.1, h.2.2.1.2, h.2.2.2.1, h.2.2.2.2⟩

set_option maxHeartbeats 4000000 in
set_option maxRecDepth 100000 in
theorem law (l : List S76) (A : Option Addr) (c : Nat) (I : ByteArray) (angle : Bool) (w : World) (hr : Kd.C k76 w A l.length l) (hc : l.length ≤ c) (hg : All Rg l) (hT : Tabs w) :
    Calls Tryd.prog 4 #[.slice A l.length c, .string I, .bool angle] w fun e w' => e = .returned (.bool true) ∧ Below w.heap.size w w' := by
  by_cases b1 : 2147483647 < l.length
  · have c1 : decide ((2147483647 : Int) < (l.length : Int)) = true := decide_eq_true (by omega)
    have c2 : decide (2147483647 < l.length) = true := decide_eq_true b1
    clear hr hc hg hT b1
    go_enter Tryd.func4, Tryd.ntmps4
    go_wp2_with fail
    go_ret
    exact ⟨rfl, Below.refl _ _⟩
  have c1 : decide ((2147483647 : Int) < (l.length : Int)) = false := decide_eq_false (by omega)
  have c2 : decide (2147483647 < l.length) = false := decide_eq_false b1
  by_cases b2 : 2147483647 < I.size
  · have c3 : decide ((2147483647 : Int) < (I.size : Int)) = true := decide_eq_true (by omega)
    have c4 : decide (2147483647 < I.size) = true := decide_eq_true b2
    clear hr hc hg hT b1 b2
    go_enter Tryd.func4, Tryd.ntmps4
    go_wp2_with fail
    go_ret
    exact ⟨rfl, Below.refl _ _⟩
  have c3 : decide ((2147483647 : Int) < (I.size : Int)) = false := decide_eq_false (by omega)
  have c4 : decide (2147483647 < I.size) = false := decide_eq_false b2
  obtain ⟨bf, hbf, hfew⟩ := few_ok l
  obtain ⟨bb, hbb, hblank⟩ := blank_ok I (by omega)
  have HFEW := Aside0.mk (hfew A c w hr hc)
  have HBL := Aside0.mk hblank
  have HR := Aside0.mk hr
  have HC := Aside0.mk hc
  have HT := Aside0.mk hT
  clear hfew hblank hr hc b1 b2 hT
  cases bf
  · clear hbf hbb hg
    go_enter Tryd.func4, Tryd.ntmps4
    go_wp2_with (go_at_call 9; go_must (refine HFEW.out.mono ?_; rintro e1 w1 ⟨rfl, hb1⟩; have HB1 := Aside0.mk hb1; clear hb1))
    go_ret
    exact ⟨rfl, HB1.out⟩
  cases bb
  · clear hbf hbb hg
    go_enter Tryd.func4, Tryd.ntmps4
    go_wp2_with (first
      | (go_at_call 9; go_must (refine HFEW.out.mono ?_; rintro e1 w1 ⟨rfl, hb1⟩; have HB1 := Aside0.mk hb1; clear hb1))
      | (go_at_call 10; go_must (refine (HBL.out _).mono ?_; rintro e2 w2 ⟨rfl, hb2⟩; have HB2 := Aside0.mk (below_then HB1.out HB1.out.size hb2.below); clear hb2)))
    go_ret
    exact ⟨rfl, HB2.out⟩
  obtain ⟨hcount, hsh⟩ := hbf rfl
  have HBB := Aside0.mk (hbb rfl)
  have hone : All One l := all_imp (P := Rg) (Q := Sh) (R := One) one_of (count l) l (Nat.le_refl _) hg hsh
  have HOPS : Aside0 (∀ W, Below w.heap.size w W → Calls Tryd.prog 12 #[.slice A l.length c] W fun e w' => ∃ (v : Value) (ops : List TOp), e = .returned v ∧ Kd.R kOp 71 w' W.heap.size (fun k => W.heap.size ≤ k) v ops ∧ Bal ops ∧ (∀ o ∈ ops, Td2.Good o) ∧ ops.length ≤ 4 * count l ∧ (l ≠ [] → ops ≠ []) ∧ Below W.heap.size W w') :=
    Aside0.mk (fun W hW => To1.ops (count l) l (Nat.le_refl _) hcount hone A c W (Kd.C_below HR.out hW) HC.out)
  have HCNT := Aside0.mk hcount
  clear hbf hbb hg hsh hone hcount
  go_enter Tryd.func4, Tryd.ntmps4
  go_wp2_with (first
    | (go_at_call 9; go_must (refine HFEW.out.mono ?_; rintro e1 w1 ⟨rfl, hb1⟩; have HB1 := Aside0.mk hb1; clear hb1))
    | (go_at_call 10; go_must (refine (HBL.out _).mono ?_; rintro e2 w2 ⟨rfl, hb2⟩; have HB2 := Aside0.mk (below_then HB1.out HB1.out.size hb2.below); clear hb2))
    | (go_at_call 12; go_must (refine (HOPS.out _ HB2.out).mono ?_; rintro e3 w3 ⟨v3, ops, rfl, hR, hb, hgo, hn, hne, hb3⟩; have HB3 := Aside0.mk (below_then HB2.out HB2.out.size hb3); obtain ⟨AK, cK, rfl, hkl, hkc⟩ := Kd.R_reads hR; have HO := Aside0.mk (And.intro hb (And.intro hgo (And.intro hn (And.intro hne (And.intro hkl hkc))))); clear hR hb hgo hn hne hkl hkc hb3))
    | (go_at_call 11; go_must (refine (Te2.enc AK cK ops I angle _ HO.out.2.2.2.2.2 HO.out.2.2.2.2.1 HBB.out.2.1 HBB.out.1 HBB.out.2.2 (by have := HO.out.2.2.1; have := HCNT.out; omega) HO.out.1 HO.out.2.1 (apps _ (HT.out.on HB3.out))).mono ?_; rintro e4 w4 ⟨v4, r, rfl, hR, ha, hne, hrl, hb4⟩; have HB4 := Aside0.mk (below_then HB3.out HB3.out.size hb4); obtain ⟨AO, cO, rfl, hol, hoc⟩ := Kd.R_reads hR; have HQ := Aside0.mk (And.intro ha (And.intro hne (And.intro hrl hoc))); clear hR ha hne hrl hol hoc hb4)))
  go_loopg [8, 37] r.length (fun k v8 v37 w' => ∃ i : Nat, v8 = .bool true ∧ v37 = .int .i64 (i : Int) ∧ Aside0 (i + k = r.length) ∧ w' = w4)
  case atStart => exact ⟨0, rfl, rfl, ⟨by omega⟩, rfl⟩
  case round =>
    obtain ⟨i, rfl, rfl, HK, rfl⟩ := hrel
    by_cases hi : i < r.length
    · obtain ⟨ad, e, x0⟩ := Kd.at_int HQ.out.2.2.2 (i : Int) (by omega) (by omega)
      cases e
      rw [Int.toNat_natCast] at x0
      have hx := HQ.out.1 (rd r (i : Int)) (by simp [rd, List.getD_eq_getElem?_getD, hi])
      have p1 : decide (rd r (i : Int) < 128) = true := decide_eq_true hx.2
      have d0 : decide ((i : Int) < (r.length : Int)) = true := decide_eq_true (by omega)
      have d1 := eq_true (show (0 : Int) ≤ (i : Int) by omega)
      have d2 := eq_true (show (i : Int) < (r.length : Int) by omega)
      have d3 : wrap64 ((i : Int) + 1) = ((i + 1 : Nat) : Int) := by have := HQ.out.2.2.1; unfold wrap64; omega
      have HI2 := Aside0.mk hi
      clear hi hx
      go_wp2_with fail
      go_roundg (r.length - (i + 1))
      case measure => have := HK.out; have := HI2.out; omega
      case rel => exact ⟨i + 1, rfl, by first | rfl | (simp; done) | (simp [d3]; done), ⟨by have := HI2.out; omega⟩, rfl⟩
    · have hin : i = r.length := by have := HK.out; omega
      subst hin
      have d0 : decide ((r.length : Int) < (r.length : Int)) = false := decide_eq_false (by omega)
      clear hi
      by_cases hl0 : l = []
      · have d4 : ((l.length : Int) == 0) = true := by rw [hl0]; rfl
        have d5 : (l.length == 0) = true := by rw [hl0]; rfl
        clear hl0
        go_wp2_with fail
        go_ret
        exact ⟨rfl, HB4.out⟩
      · have hlp := List.length_pos_iff.2 hl0
        have d4 : ((l.length : Int) == 0) = false := beq_eq_false_iff_ne.mpr (by omega)
        have hrp := List.length_pos_iff.2 (HQ.out.2.1 (HO.out.2.2.2.1 hl0))
        have d6 : decide ((0 : Int) < (r.length : Int)) = true := decide_eq_true (by omega)
        have d7 : decide (0 < r.length) = true := decide_eq_true hrp
        clear hl0 hlp hrp
        go_wp2_with fail
        go_ret
        exact ⟨rfl, HB4.out⟩

end Go.Proofs.YticfdfomlcohpaaDoor.La
