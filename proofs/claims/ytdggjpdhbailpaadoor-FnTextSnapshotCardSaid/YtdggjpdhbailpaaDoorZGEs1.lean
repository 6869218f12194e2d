/- appendString not as ASCII: strB is appended; the elder value stays. Conditions: the row that is appended to is the call's own; the tables of package utf8, and deBruijn64tab, read as laid. -/
import Derived.Test.YtdggjpdhbailpaaDoorZGEs0
import Derived.Test.YtdggjpdhbailpaaDoorZGAs1
namespace Go.Proofs.YtdggjpdhbailpaaDoor.Es1
set_option linter.unusedSimpArgs false
set_option linter.unusedVariables false
set_option linter.unusedSectionVars false
open Go.RowKit Go.Proofs.YtdggjpdhbailpaaDoorW.PrintWords Go.Proofs.YtdggjpdhbailpaaDoorW.PrintLast Go.Proofs.YtdggjpdhbailpaaDoorW.PrintMore Go.Proofs.YtdggjpdhbailpaaDoor.As1 Go.Proofs.YtdggjpdhbailpaaDoor.Uh Go.Proofs.YtdggjpdhbailpaaDoor.Es Go.Proofs.YtdggjpdhbailpaaDoor.PFnTextAscii

theorem ext_len (z : ByteArray) (a b : Nat) : (bytesOf (z.extract a b)).length ≤ z.size := by
  rw [bytesOf_length, ByteArray.size_extract]
  omega
variable [γ_ : Gho]

set_option maxHeartbeats 8000000 in
set_option maxRecDepth 100000 in
theorem str (s : ByteArray) (hs : s.size ≤ 1001) (P0 : Nat → Prop) (v : Value) (l : List Int) (w0 w : World) (hl : l.length + 90000 ≤ 140737488355328) (hB : Below w0.heap.size w0 w) (ho : Kd.G (Kd.int .u8) 5 w w0.heap.size P0 v l) (hT : Tz w0) (hU : Lib.Utf8Tabs 3 4 w0) :
    Calls Tryd.prog 78 #[v, .string s, .bool false] w fun e w' => (strB s).length ≤ 80000 ∧ AddP w0 w P0 l (strB s) e w' := by
  have HT := Aside0.mk hT
  have HU := Aside0.mk hU
  have HLEN := Aside0.mk (show l.length + 90000 ≤ 140737488355328 ∧ s.size ≤ 1001 from ⟨hl, hs⟩)
  have Q0 := Aside0.mk (Qr.start (P0 := P0) hB ho)
  obtain ⟨ja, jc⟩ := ix s (by omega)
  obtain ⟨j0, hj0⟩ : ∃ j, j = ixN s := ⟨_, rfl⟩
  rw [← hj0] at ja jc
  have HIX := Aside0.mk jc
  have HJ := Aside0.mk (And.intro ja hj0)
  have HR : Aside0 (True ∧ ([] : List Int).length ≤ 20040) := ⟨⟨trivial, by decide⟩⟩
  have ji0 := eq_true (show (0 : Int) ≤ (j0 : Int) by omega)
  have ji1 := eq_true (show (j0 : Int) ≤ (s.size : Int) by omega)
  have ji2 : ((j0 : Int)).toNat = j0 := by omega
  clear hs hl hB ho hT hU ja jc hj0
  go_enter Tryd.func78, Tryd.ntmps78
  go_wp2_with (first | (at_builtin; refine Kd.G_append (Kd.int .u8) (w0 := w0) w0.heap.size rfl (.tmp 11) (.tmp 12) 29 5 (.int .u8 0) 1 rfl Tryd.underlying29 info5 rfl (by decide) (by omega) v (l) 34 [.int .u8 34] (fun k => P0 k ∨ w.heap.size ≤ k) (fun _ => False) rfl rfl rfl (fun _ hk => hk.elim) (fun k hk => Q0.out.fresh k hk) Q0.out.R Q0.out.B Q0.out.B.size (by have := HLEN.out; have := HR.out.2; rw [Nat.mul_one]; (try simp only [List.length_append, List.length_cons, List.length_nil]); omega) ?_; intro v1 w1 hR hB hG hat; have Q1 := Aside0.mk (Q0.out.grown hR hB hG); clear hR hB hG hat) | (go_at_call 90; go_must (refine (HIX.out _).mono ?_; rintro e2 w2 ⟨rfl, hd⟩; have Q2 := Aside0.mk (Q1.out.below hd.below); clear hd)))
  refine start_ (n := 10) (S := fun w' => True) (ds := []) #[false, false, false, false, false, false, false, false, false, false] (by kernel_rfl) rfl rfl trivial (fun hHeld => ?_)
  refine pure_ (i := 0) (N := some 16) (v := ?_) (a' := ?_) #[true, false, false, false, false, false, false, false, false, false] rfl rfl (by kernel_rfl) (fun _ _ _ h => h) (Or.inl ⟨by rfl, ?_⟩) ?_ ?_
  rotate_left
  · intro w'
    go_simp
    with_reducible rfl
  rotate_left
  · simp only [Act.put, List.setIfInBounds_toArray, List.set_cons_zero, List.set_cons_succ, i64_w, i32_w]
    rfl
  refine pure_ (i := 1) (N := some 17) (v := ?_) (a' := ?_) #[true, true, false, false, false, false, false, false, false, false] rfl rfl (by kernel_rfl) (fun _ _ _ h => h) (Or.inl ⟨by rfl, ?_⟩) ?_ ?_
  rotate_left
  · intro w'
    go_simp
    with_reducible rfl
  rotate_left
  · simp only [Act.put, List.setIfInBounds_toArray, List.set_cons_zero, List.set_cons_succ, i64_w, i32_w]
    rfl
  refine pure_ (i := 2) (N := some 18) (v := ?_) (a' := ?_) #[true, true, true, false, false, false, false, false, false, false] rfl rfl (by kernel_rfl) (fun _ _ _ h => h) (Or.inl ⟨by rfl, ?_⟩) ?_ ?_
  rotate_left
  · intro w'
    go_simp
    with_reducible rfl
  rotate_left
  · simp only [Act.put, List.setIfInBounds_toArray, List.set_cons_zero, List.set_cons_succ, i64_w, i32_w]
    rfl
  refine pure_ (i := 3) (N := some 19) (v := ?_) (a' := ?_) #[true, true, true, true, false, false, false, false, false, false] rfl rfl (by kernel_rfl) (fun _ _ _ h => h) (Or.inl ⟨by rfl, ?_⟩) ?_ ?_
  rotate_left
  · intro w'
    go_simp
    with_reducible rfl
  rotate_left
  · simp only [Act.put, List.setIfInBounds_toArray, List.set_cons_zero, List.set_cons_succ, i64_w, i32_w]
    rfl
  refine pure_ (i := 4) (N := some 20) (v := ?_) (a' := ?_) #[true, true, true, true, true, false, false, false, false, false] rfl rfl (by kernel_rfl) (fun _ _ _ h => h) (Or.inl ⟨by rfl, ?_⟩) ?_ ?_
  rotate_left
  · intro w'
    go_simp
    with_reducible rfl
  rotate_left
  · simp only [Act.put, List.setIfInBounds_toArray, List.set_cons_zero, List.set_cons_succ, i64_w, i32_w]
    rfl
  refine pure_ (i := 5) (N := some 21) (v := ?_) (a' := ?_) #[true, true, true, true, true, true, false, false, false, false] rfl rfl (by kernel_rfl) (fun _ _ _ h => h) (Or.inl ⟨by rfl, ?_⟩) ?_ ?_
  rotate_left
  · intro w'
    go_simp
    with_reducible rfl
  rotate_left
  · simp only [Act.put, List.setIfInBounds_toArray, List.set_cons_zero, List.set_cons_succ, i64_w, i32_w]
    rfl
  refine pure_ (i := 6) (N := some 22) (v := ?_) (a' := ?_) #[true, true, true, true, true, true, true, false, false, false] rfl rfl (by kernel_rfl) (fun _ _ _ h => h) (Or.inl ⟨by rfl, ?_⟩) ?_ ?_
  rotate_left
  · intro w'
    go_simp
    with_reducible rfl
  rotate_left
  · simp only [Act.put, List.setIfInBounds_toArray, List.set_cons_zero, List.set_cons_succ, i64_w, i32_w]
    rfl
  refine one_ (i := 7) (N := some 23) #[true, true, true, true, true, true, true, true, false, false] rfl rfl (by kernel_rfl) (by decide) (fun K hK => ?_)
  refine step_app_str (w0 := w0) w0.heap.size (by rfl) (.tmp 19) (.tmp 22) 29 9 5 (by rfl) Tryd.underlying29 Tryd.underlying9 info5 (fun k => P0 k ∨ w.heap.size ≤ k) v1 (l ++ [34]) (s.extract 0 j0) (by rfl) (by rfl) (fun k hk => Q2.out.fresh k hk) (Q2.out.below (below_drew (Below.refl _ _))).R (Q2.out.below (below_drew (Below.refl _ _))).B Q2.out.B.size (by have := HLEN.out; have := HJ.out.1; (try simp only [List.length_append, List.length_cons, List.length_nil, ByteArray.size_extract]); omega) ?_
  intro v3 w3 hR hB hK; have Q3 := Aside0.mk ((Q2.out.below (below_drew (Below.refl _ _))).kept (Kd.G_mono hR (fun _ h => .inl h)) hB hK); clear hR hB hK
  refine hK.out _ _ trivial (fun hHeld => ?_)
  clear hK K
  refine norm_ (a' := ?_) ?_ ?_
  rotate_left
  · show Act.put _ (some 23) _ = _
    simp only [Act.put, List.setIfInBounds_toArray, List.set_cons_zero, List.set_cons_succ, i64_w, i32_w]
    rfl
  refine pure_ (i := 8) (N := some 1) (v := ?_) (a' := ?_) #[true, true, true, true, true, true, true, true, true, false] rfl rfl (by kernel_rfl) (fun _ _ _ h => h) (Or.inl ⟨by rfl, ?_⟩) ?_ ?_
  rotate_left
  · intro w'
    go_simp
    with_reducible rfl
  rotate_left
  · simp only [Act.put, List.setIfInBounds_toArray, List.set_cons_zero, List.set_cons_succ, i64_w, i32_w]
    rfl
  refine pure_ (i := 9) (N := some 0) (v := ?_) (a' := ?_) #[true, true, true, true, true, true, true, true, true, true] rfl rfl (by kernel_rfl) (fun _ _ _ h => h) (Or.inl ⟨by rfl, ?_⟩) ?_ ?_
  rotate_left
  · intro w'
    go_simp
    with_reducible rfl
  rotate_left
  · simp only [Act.put, List.setIfInBounds_toArray, List.set_cons_zero, List.set_cons_succ, i64_w, i32_w]
    rfl
  refine done_ (by kernel_rfl) ?_
  go_wp2_with fail
  clear HR
  have hj3 : (bytesOf (s.extract 0 j0)).length = j0 := by rw [bytesOf_length, ByteArray.size_extract]; have := HJ.out.1; omega
  have hs1 : (s.extract j0 s.size).size = s.size - j0 := by rw [ByteArray.size_extract]; have := HJ.out.1; omega
  have HS0 := Aside0.mk (show (Lft (headB s) (s.extract j0 s.size) ([34] ++ bytesOf (s.extract 0 j0)) ∧ ([34] ++ bytesOf (s.extract 0 j0)).length + 20 * (s.extract j0 s.size).size ≤ 20 * s.size + 20) from ⟨⟨s.size, by omega, by rw [HJ.out.2]; rfl⟩, by rw [hs1, List.length_append, hj3]; have := HJ.out.1; simp only [List.length_cons, List.length_nil]; omega⟩)
  have Q4 := Aside0.mk (show Qr w0 w w3 P0 v3 (l ++ ([34] ++ bytesOf (s.extract 0 j0))) from by have h := Q3.out; rwa [List.append_assoc] at h)
  have HSZ := Aside0.mk (show (s.extract j0 s.size).size ≤ s.size by omega)
  clear hj3 hs1 Q0 Q1 Q2 Q3 ji0 ji1 ji2
  go_loopg [0, 1] s.size (fun k v0 v1 w' => ∃ (t : ByteArray) (r : List Int), v1 = .string t ∧ Aside0 (t.size ≤ k) ∧ Aside0 (Qr w0 w w' P0 v0 (l ++ r)) ∧ Aside0 (Lft (headB s) t r ∧ r.length + 20 * t.size ≤ 20 * s.size + 20))
  case atStart => exact ⟨_, _, rfl, HSZ, Q4, HS0⟩
  case round =>
    clear HS0 Q4 HSZ
    obtain ⟨t, r, rfl, HK, Q0, HRR⟩ := hrel
    by_cases ht : 0 < t.size
    · obtain ⟨rn, n, hdec, n1, n2, r2, r3, r4⟩ := dec_facts t ht
      have HDEC : Aside0 (∀ W, Below w0.heap.size w0 W → Calls Tryd.prog 91 #[.string t] W fun e w' => e = .returned (.tuple #[.int .i32 (rn : Int), .int .i64 (n : Int)]) ∧ Below W.heap.size W w') := Aside0.mk (fun W hw => by
        have h := Tryd.utf8_DecodeRuneInString t W (Utf8Tabs_below HU.out hw)
        rw [hdec] at h
        exact h)
      obtain ⟨rI, hrI⟩ : ∃ x : Int, x = (rn : Int) := ⟨_, rfl⟩
      have HPT := Aside0.mk (show pc t = pcs t rI n by unfold pc; rw [hdec, hrI])
      rw [← hrI] at HDEC r3
      have HF := Aside0.mk (And.intro hrI (And.intro n1 (And.intro n2 (And.intro r2 (And.intro r3 r4)))))
      have HR := Aside0.mk (And.intro HRR.out.1 (show r.length ≤ 20040 - 20 * t.size by have := HRR.out.2; have := HLEN.out.2; omega))
      have HRL := HRR
      have c0 : decide ((0 : Int) < (t.size : Int)) = true := decide_eq_true (by omega)
      have c0b : decide (0 < t.size) = true := decide_eq_true ht
      have hn0 := eq_true (show (0 : Int) ≤ (n : Int) by omega)
      have hn1 := eq_true (show (n : Int) ≤ (t.size : Int) by omega)
      have hn2 : ((n : Int)).toNat = n := by omega
      have hts : (t.extract n t.size).size = t.size - n := by rw [ByteArray.size_extract]; omega
      have HTS := Aside0.mk hts
      have HHT := Aside0.mk ht
      clear HRR hdec hrI n1 n2 r2 r3 r4 ht hts
      have hr0 : 0 ≤ rI ∧ rI ≤ 1114111 := by have := HF.out.1; have := HF.out.2.2.2.1; omega
      by_cases hbad : rI = 65533 ∧ n = 1
      · have HPC := Aside0.mk (show pc t = ([92] ++ [120] ++ zf2 (bt t 0) ++ hexL 6 (bt t 0).toNat, t.extract n t.size) from HPT.out.trans (by unfold pcs; rw [if_pos hbad]))
        obtain ⟨hX, hN⟩ := hbad
        subst hX
        have hn1b : ((n : Int) == 1) = true := beq_iff_eq.mpr (by omega)
        have HN1 := Aside0.mk hN
        clear hN
        obtain ⟨cI, hcI⟩ : ∃ x : Int, x = bt t 0 := ⟨_, rfl⟩
        have hc1 : 128 ≤ cI := by rw [hcI]; exact HF.out.2.2.2.2.2 ⟨by have := HF.out.1; omega, HN1.out⟩
        have hc2 : cI ≤ 255 := by rw [hcI]; exact (bt_range t 0).2
        have hb0 : ∀ h : 0 < t.size, ((t[0]'h).toNat : Int) = cI := fun h => by rw [hcI]; simp [bt, h]
        rw [← hcI] at HPC
        have hlen0 : 0 < t.size := HHT.out
        have hw1 : IntKind.i32.wrap cI = cI := by rw [IntKind.wrap_i32]; omega
        clear hcI
        have q0 : (cI == 34) = false := beq_eq_false_iff_ne.mpr (by omega)
        have q1 : (cI == 92) = false := beq_eq_false_iff_ne.mpr (by omega)
        have q2 : (cI == 10) = false := beq_eq_false_iff_ne.mpr (by omega)
        have q3 : (cI == 13) = false := beq_eq_false_iff_ne.mpr (by omega)
        have q4 : (cI == 9) = false := beq_eq_false_iff_ne.mpr (by omega)
        obtain ⟨xn, hxn⟩ := Int.eq_ofNat_of_zero_le (show 0 ≤ cI by omega)
        have hbl := Lib.bitLen_le xn 8 (by decide) (by omega)
        have HLN : Aside0 (∀ W, Calls Tryd.prog 92 #[.int .u32 cI] W fun e w' => e = .returned (.int .i64 (Lib.bitLen xn : Int)) ∧ w' = W) := Aside0.mk (fun W => by have h := Tryd.bits_Len32 cI W (by omega) (by omega); rw [show (cI).toNat = xn by omega] at h; exact h)
        obtain ⟨bl, hbl0⟩ : ∃ b, b = Lib.bitLen xn := ⟨_, rfl⟩
        rw [← hbl0] at hbl HLN
        obtain ⟨dI, hdI⟩ : ∃ x : Int, x = (bl : Int) - 1 := ⟨_, rfl⟩
        obtain ⟨qI, hqI⟩ : ∃ x : Int, x = dI.tdiv 4 := ⟨_, rfl⟩
        have hqb : 0 ≤ qI ∧ qI ≤ 1 := by
          rw [hqI]
          rcases (show dI = -1 ∨ 0 ≤ dI by omega) with h | h
          · rw [h]; decide
          · rw [Int.tdiv_eq_ediv_of_nonneg h]; omega
        obtain ⟨kk, hkk⟩ := Int.eq_ofNat_of_zero_le (show 0 ≤ 1 + qI by omega)
        have g1 : wrap64 ((bl : Int) - 1) = dI := by unfold wrap64; omega
        have g2 : wrap64 (dI.tdiv 4) = qI := by rw [← hqI]; unfold wrap64; omega
        have g3 : wrap64 (1 + qI) = (kk : Int) := by unfold wrap64; omega
        have g4 : dI.tdiv 4 = qI := hqI.symm
        have g10 : wrap64 qI = qI := by unfold wrap64; omega
        have g5 := eq_true (show (0 : Int) ≤ (kk : Int) by omega)
        have g6 := eq_true (show (kk : Int) ≤ 2 by omega)
        have g6b := eq_true (show kk ≤ 2 by omega)
        have g7 : ((kk : Int)).toNat = kk := by omega
        have g8 : IntKind.u32.wrap (cI) = cI := by rw [IntKind.wrap_u32]; omega
        have g9 : IntKind.u64.wrap (cI) = cI := by rw [IntKind.wrap_u64]; omega
        have HHEX : Aside0 (∀ W v l2, Qr w0 w W P0 v l2 → l2.length + 100 ≤ 140737488355328 → Calls Tryd.prog 81 #[v, .int .u64 cI, .int .i64 16] W (fun e w' => (hexL 6 xn).length ≤ 6 ∧ AddP w0 W (fun k => P0 k ∨ w.heap.size ≤ k) l2 (hexL 6 xn) e w')) := Aside0.mk (fun W v l2 hq hl2 => by rw [hxn]; exact aup16 xn (by omega) _ v l2 w0 W hl2 hq.B hq.R (HT.out.on hq.B))
        have HXN := Aside0.mk (show (cI).toNat = xn by omega)
        have HZF := Aside0.mk (show zf2 (cI) = bytesOf ((⟨#[48, 48]⟩ : ByteArray).extract kk 2) by unfold zf2; rw [HXN.out, ← hbl0, ← hdI, ← hqI, hkk]; rfl)
        clear hbl hdI hqI hqb hkk hxn hbl0
        go_wp2_with (first | (go_at_call 91; go_must (refine (HDEC.out _ Q0.out.B).mono ?_; rintro e1 w1 ⟨rfl, hb⟩; have Q1 := Aside0.mk (Q0.out.below hb); clear hb)) | (at_builtin; refine Kd.G_append (Kd.int .u8) (w0 := w0) w0.heap.size rfl (.tmp 67) (.tmp 68) 29 5 (.int .u8 0) 1 rfl Tryd.underlying29 info5 rfl (by decide) (by omega) u0 (l ++ r) 92 [.int .u8 92] (fun k => P0 k ∨ w.heap.size ≤ k) (fun _ => False) rfl rfl rfl (fun _ hk => hk.elim) (fun k hk => Q1.out.fresh k hk) Q1.out.R Q1.out.B Q1.out.B.size (by have := HLEN.out; have := HR.out.2; rw [Nat.mul_one]; (try simp only [List.length_append, List.length_cons, List.length_nil]); omega) ?_; intro v2 w2 hR hB hG hat; have Q2 := Aside0.mk (Q1.out.grown hR hB hG); clear hR hB hG hat) | (at_builtin; refine Kd.G_append (Kd.int .u8) (w0 := w0) w0.heap.size rfl (.tmp 71) (.tmp 72) 29 5 (.int .u8 0) 1 rfl Tryd.underlying29 info5 rfl (by decide) (by omega) v2 (l ++ r ++ [92]) 120 [.int .u8 120] (fun k => P0 k ∨ w.heap.size ≤ k) (fun _ => False) rfl rfl rfl (fun _ hk => hk.elim) (fun k hk => Q2.out.fresh k hk) Q2.out.R Q2.out.B Q2.out.B.size (by have := HLEN.out; have := HR.out.2; rw [Nat.mul_one]; (try simp only [List.length_append, List.length_cons, List.length_nil]); omega) ?_; intro v3 w3 hR hB hG hat; have Q3 := Aside0.mk (Q2.out.grown hR hB hG); clear hR hB hG hat) | (go_at_call 92; go_must (refine (HLN.out _).mono ?_; rintro e3 w3_ ⟨rfl, rfl⟩)) | (at_builtin; refine wpList_app_str (w0 := w0) w0.heap.size rfl (.tmp 74) (.tmp 81) 29 9 5 rfl Tryd.underlying29 Tryd.underlying9 info5 (fun k => P0 k ∨ w.heap.size ≤ k) v3 (l ++ r ++ [92] ++ [120]) _ rfl rfl Q3.out.R Q3.out.B Q3.out.B.size (by have := HLEN.out; have := HR.out.2; have hz_ : (⟨#[48, 48]⟩ : ByteArray).size = 2 := rfl; (try simp only [List.length_append, List.length_cons, List.length_nil, ByteArray.size_extract]); omega) ?_; intro v4 w4 hR hB hK; have hq := Q3.out.kept hR hB hK; generalize hzz : bytesOf _ = zb at hq; have HZ := Aside0.mk (And.intro (hzz.symm.trans HZF.out.symm) (show zb.length ≤ 2 by rw [← hzz]; exact ext_len _ _ _)); have Q4 := Aside0.mk hq; clear hR hB hK hq hzz) | (go_at_call 81; go_must (refine (HHEX.out _ v4 (l ++ r ++ [92] ++ [120] ++ zb) Q4.out (by have := HLEN.out; have := HR.out.2; have := HZ.out.2; (try simp only [List.length_append, List.length_cons, List.length_nil]); omega)).mono ?_; rintro e5 w5 ⟨x2, v5, rfl, hR, hB, hK⟩; have Q5 := Aside0.mk (Q4.out.kept hR hB hK); have HXX := Aside0.mk (And.intro trivial x2); clear hR hB hK x2)))
        go_roundg (gk - 1)
        case measure => have := HK.out; have := HHT.out; omega
        case rel => exact ⟨t.extract n t.size, r ++ [92] ++ [120] ++ zb ++ hexL 6 xn, by first | rfl | (simp; done), ⟨by have := HTS.out; have := HK.out; have := HF.out.2.1; have := HF.out.2.2.1; omega⟩, ⟨by have h := Q5.out; simpa only [List.append_assoc] using h⟩, ⟨⟨by have h := HR.out.1.step HHT.out HPC.out (by have := HTS.out; have := HF.out.2.1; have := HF.out.2.2.1; omega); rw [HXN.out, ← HZ.out.1] at h; simpa only [List.append_assoc] using h, by have := HRL.out.2; have := HTS.out; have := HF.out.2.1; have := HF.out.2.2.1; have := HZ.out.2; have := HXX.out.2; simp only [List.length_append, List.length_cons, List.length_nil]; omega⟩⟩⟩
      by_cases h1 : rI = 34
      · have HPC := Aside0.mk (show pc t = ([92] ++ [34], t.extract n t.size) from HPT.out.trans (by unfold pcs; rw [if_neg hbad, if_pos h1]))
        have hX : rI = 34 := by omega
        subst hX
        go_wp2_with (first | (go_at_call 91; go_must (refine (HDEC.out _ Q0.out.B).mono ?_; rintro e1 w1 ⟨rfl, hb⟩; have Q1 := Aside0.mk (Q0.out.below hb); clear hb)) | (at_builtin; refine Kd.G_append (Kd.int .u8) (w0 := w0) w0.heap.size rfl (.tmp 67) (.tmp 68) 29 5 (.int .u8 0) 1 rfl Tryd.underlying29 info5 rfl (by decide) (by omega) u0 (l ++ r) 92 [.int .u8 92] (fun k => P0 k ∨ w.heap.size ≤ k) (fun _ => False) rfl rfl rfl (fun _ hk => hk.elim) (fun k hk => Q1.out.fresh k hk) Q1.out.R Q1.out.B Q1.out.B.size (by have := HLEN.out; have := HR.out.2; rw [Nat.mul_one]; (try simp only [List.length_append, List.length_cons, List.length_nil]); omega) ?_; intro v2 w2 hR hB hG hat; have Q2 := Aside0.mk (Q1.out.grown hR hB hG); clear hR hB hG hat) | (at_builtin; refine Kd.G_append (Kd.int .u8) (w0 := w0) w0.heap.size rfl (.tmp 90) (.tmp 93) 29 5 (.int .u8 0) 1 rfl Tryd.underlying29 info5 rfl (by decide) (by omega) v2 (l ++ r ++ [92]) 34 [.int .u8 34] (fun k => P0 k ∨ w.heap.size ≤ k) (fun _ => False) rfl rfl rfl (fun _ hk => hk.elim) (fun k hk => Q2.out.fresh k hk) Q2.out.R Q2.out.B Q2.out.B.size (by have := HLEN.out; have := HR.out.2; rw [Nat.mul_one]; (try simp only [List.length_append, List.length_cons, List.length_nil]); omega) ?_; intro v3 w3 hR hB hG hat; have Q3 := Aside0.mk (Q2.out.grown hR hB hG); clear hR hB hG hat))
        go_roundg (gk - 1)
        case measure => have := HK.out; have := HHT.out; omega
        case rel => exact ⟨t.extract n t.size, r ++ [92] ++ [34], by first | rfl | (simp; done), ⟨by have := HTS.out; have := HK.out; have := HF.out.2.1; have := HF.out.2.2.1; omega⟩, ⟨by have h := Q3.out; simpa only [List.append_assoc] using h⟩, ⟨⟨by have h := HR.out.1.step HHT.out HPC.out (by have := HTS.out; have := HF.out.2.1; have := HF.out.2.2.1; omega); simpa only [List.append_assoc] using h, by have := HRL.out.2; have := HTS.out; have := HF.out.2.1; have := HF.out.2.2.1;  simp only [List.length_append, List.length_cons, List.length_nil]; omega⟩⟩⟩
      by_cases h2 : rI = 92
      · have HPC := Aside0.mk (show pc t = ([92] ++ [92], t.extract n t.size) from HPT.out.trans (by unfold pcs; rw [if_neg hbad, if_neg h1, if_pos h2]))
        have hX : rI = 92 := by omega
        subst hX
        go_wp2_with (first | (go_at_call 91; go_must (refine (HDEC.out _ Q0.out.B).mono ?_; rintro e1 w1 ⟨rfl, hb⟩; have Q1 := Aside0.mk (Q0.out.below hb); clear hb)) | (at_builtin; refine Kd.G_append (Kd.int .u8) (w0 := w0) w0.heap.size rfl (.tmp 67) (.tmp 68) 29 5 (.int .u8 0) 1 rfl Tryd.underlying29 info5 rfl (by decide) (by omega) u0 (l ++ r) 92 [.int .u8 92] (fun k => P0 k ∨ w.heap.size ≤ k) (fun _ => False) rfl rfl rfl (fun _ hk => hk.elim) (fun k hk => Q1.out.fresh k hk) Q1.out.R Q1.out.B Q1.out.B.size (by have := HLEN.out; have := HR.out.2; rw [Nat.mul_one]; (try simp only [List.length_append, List.length_cons, List.length_nil]); omega) ?_; intro v2 w2 hR hB hG hat; have Q2 := Aside0.mk (Q1.out.grown hR hB hG); clear hR hB hG hat) | (at_builtin; refine Kd.G_append (Kd.int .u8) (w0 := w0) w0.heap.size rfl (.tmp 90) (.tmp 93) 29 5 (.int .u8 0) 1 rfl Tryd.underlying29 info5 rfl (by decide) (by omega) v2 (l ++ r ++ [92]) 92 [.int .u8 92] (fun k => P0 k ∨ w.heap.size ≤ k) (fun _ => False) rfl rfl rfl (fun _ hk => hk.elim) (fun k hk => Q2.out.fresh k hk) Q2.out.R Q2.out.B Q2.out.B.size (by have := HLEN.out; have := HR.out.2; rw [Nat.mul_one]; (try simp only [List.length_append, List.length_cons, List.length_nil]); omega) ?_; intro v3 w3 hR hB hG hat; have Q3 := Aside0.mk (Q2.out.grown hR hB hG); clear hR hB hG hat))
        go_roundg (gk - 1)
        case measure => have := HK.out; have := HHT.out; omega
        case rel => exact ⟨t.extract n t.size, r ++ [92] ++ [92], by first | rfl | (simp; done), ⟨by have := HTS.out; have := HK.out; have := HF.out.2.1; have := HF.out.2.2.1; omega⟩, ⟨by have h := Q3.out; simpa only [List.append_assoc] using h⟩, ⟨⟨by have h := HR.out.1.step HHT.out HPC.out (by have := HTS.out; have := HF.out.2.1; have := HF.out.2.2.1; omega); simpa only [List.append_assoc] using h, by have := HRL.out.2; have := HTS.out; have := HF.out.2.1; have := HF.out.2.2.1;  simp only [List.length_append, List.length_cons, List.length_nil]; omega⟩⟩⟩
      by_cases h3 : rI = 10
      · have HPC := Aside0.mk (show pc t = ([92] ++ [110], t.extract n t.size) from HPT.out.trans (by unfold pcs; rw [if_neg hbad, if_neg h1, if_neg h2, if_pos h3]))
        have hX : rI = 10 := by omega
        subst hX
        go_wp2_with (first | (go_at_call 91; go_must (refine (HDEC.out _ Q0.out.B).mono ?_; rintro e1 w1 ⟨rfl, hb⟩; have Q1 := Aside0.mk (Q0.out.below hb); clear hb)) | (at_builtin; refine Kd.G_append (Kd.int .u8) (w0 := w0) w0.heap.size rfl (.tmp 67) (.tmp 68) 29 5 (.int .u8 0) 1 rfl Tryd.underlying29 info5 rfl (by decide) (by omega) u0 (l ++ r) 92 [.int .u8 92] (fun k => P0 k ∨ w.heap.size ≤ k) (fun _ => False) rfl rfl rfl (fun _ hk => hk.elim) (fun k hk => Q1.out.fresh k hk) Q1.out.R Q1.out.B Q1.out.B.size (by have := HLEN.out; have := HR.out.2; rw [Nat.mul_one]; (try simp only [List.length_append, List.length_cons, List.length_nil]); omega) ?_; intro v2 w2 hR hB hG hat; have Q2 := Aside0.mk (Q1.out.grown hR hB hG); clear hR hB hG hat) | (at_builtin; refine Kd.G_append (Kd.int .u8) (w0 := w0) w0.heap.size rfl (.tmp 97) (.tmp 98) 29 5 (.int .u8 0) 1 rfl Tryd.underlying29 info5 rfl (by decide) (by omega) v2 (l ++ r ++ [92]) 110 [.int .u8 110] (fun k => P0 k ∨ w.heap.size ≤ k) (fun _ => False) rfl rfl rfl (fun _ hk => hk.elim) (fun k hk => Q2.out.fresh k hk) Q2.out.R Q2.out.B Q2.out.B.size (by have := HLEN.out; have := HR.out.2; rw [Nat.mul_one]; (try simp only [List.length_append, List.length_cons, List.length_nil]); omega) ?_; intro v3 w3 hR hB hG hat; have Q3 := Aside0.mk (Q2.out.grown hR hB hG); clear hR hB hG hat))
        go_roundg (gk - 1)
        case measure => have := HK.out; have := HHT.out; omega
        case rel => exact ⟨t.extract n t.size, r ++ [92] ++ [110], by first | rfl | (simp; done), ⟨by have := HTS.out; have := HK.out; have := HF.out.2.1; have := HF.out.2.2.1; omega⟩, ⟨by have h := Q3.out; simpa only [List.append_assoc] using h⟩, ⟨⟨by have h := HR.out.1.step HHT.out HPC.out (by have := HTS.out; have := HF.out.2.1; have := HF.out.2.2.1; omega); simpa only [List.append_assoc] using h, by have := HRL.out.2; have := HTS.out; have := HF.out.2.1; have := HF.out.2.2.1;  simp only [List.length_append, List.length_cons, List.length_nil]; omega⟩⟩⟩
      by_cases h4 : rI = 13
      · have HPC := Aside0.mk (show pc t = ([92] ++ [114], t.extract n t.size) from HPT.out.trans (by unfold pcs; rw [if_neg hbad, if_neg h1, if_neg h2, if_neg h3, if_pos h4]))
        have hX : rI = 13 := by omega
        subst hX
        go_wp2_with (first | (go_at_call 91; go_must (refine (HDEC.out _ Q0.out.B).mono ?_; rintro e1 w1 ⟨rfl, hb⟩; have Q1 := Aside0.mk (Q0.out.below hb); clear hb)) | (at_builtin; refine Kd.G_append (Kd.int .u8) (w0 := w0) w0.heap.size rfl (.tmp 67) (.tmp 68) 29 5 (.int .u8 0) 1 rfl Tryd.underlying29 info5 rfl (by decide) (by omega) u0 (l ++ r) 92 [.int .u8 92] (fun k => P0 k ∨ w.heap.size ≤ k) (fun _ => False) rfl rfl rfl (fun _ hk => hk.elim) (fun k hk => Q1.out.fresh k hk) Q1.out.R Q1.out.B Q1.out.B.size (by have := HLEN.out; have := HR.out.2; rw [Nat.mul_one]; (try simp only [List.length_append, List.length_cons, List.length_nil]); omega) ?_; intro v2 w2 hR hB hG hat; have Q2 := Aside0.mk (Q1.out.grown hR hB hG); clear hR hB hG hat) | (at_builtin; refine Kd.G_append (Kd.int .u8) (w0 := w0) w0.heap.size rfl (.tmp 102) (.tmp 103) 29 5 (.int .u8 0) 1 rfl Tryd.underlying29 info5 rfl (by decide) (by omega) v2 (l ++ r ++ [92]) 114 [.int .u8 114] (fun k => P0 k ∨ w.heap.size ≤ k) (fun _ => False) rfl rfl rfl (fun _ hk => hk.elim) (fun k hk => Q2.out.fresh k hk) Q2.out.R Q2.out.B Q2.out.B.size (by have := HLEN.out; have := HR.out.2; rw [Nat.mul_one]; (try simp only [List.length_append, List.length_cons, List.length_nil]); omega) ?_; intro v3 w3 hR hB hG hat; have Q3 := Aside0.mk (Q2.out.grown hR hB hG); clear hR hB hG hat))
        go_roundg (gk - 1)
        case measure => have := HK.out; have := HHT.out; omega
        case rel => exact ⟨t.extract n t.size, r ++ [92] ++ [114], by first | rfl | (simp; done), ⟨by have := HTS.out; have := HK.out; have := HF.out.2.1; have := HF.out.2.2.1; omega⟩, ⟨by have h := Q3.out; simpa only [List.append_assoc] using h⟩, ⟨⟨by have h := HR.out.1.step HHT.out HPC.out (by have := HTS.out; have := HF.out.2.1; have := HF.out.2.2.1; omega); simpa only [List.append_assoc] using h, by have := HRL.out.2; have := HTS.out; have := HF.out.2.1; have := HF.out.2.2.1;  simp only [List.length_append, List.length_cons, List.length_nil]; omega⟩⟩⟩
      by_cases h5 : rI = 9
      · have HPC := Aside0.mk (show pc t = ([92] ++ [116], t.extract n t.size) from HPT.out.trans (by unfold pcs; rw [if_neg hbad, if_neg h1, if_neg h2, if_neg h3, if_neg h4, if_pos h5]))
        have hX : rI = 9 := by omega
        subst hX
        go_wp2_with (first | (go_at_call 91; go_must (refine (HDEC.out _ Q0.out.B).mono ?_; rintro e1 w1 ⟨rfl, hb⟩; have Q1 := Aside0.mk (Q0.out.below hb); clear hb)) | (at_builtin; refine Kd.G_append (Kd.int .u8) (w0 := w0) w0.heap.size rfl (.tmp 67) (.tmp 68) 29 5 (.int .u8 0) 1 rfl Tryd.underlying29 info5 rfl (by decide) (by omega) u0 (l ++ r) 92 [.int .u8 92] (fun k => P0 k ∨ w.heap.size ≤ k) (fun _ => False) rfl rfl rfl (fun _ hk => hk.elim) (fun k hk => Q1.out.fresh k hk) Q1.out.R Q1.out.B Q1.out.B.size (by have := HLEN.out; have := HR.out.2; rw [Nat.mul_one]; (try simp only [List.length_append, List.length_cons, List.length_nil]); omega) ?_; intro v2 w2 hR hB hG hat; have Q2 := Aside0.mk (Q1.out.grown hR hB hG); clear hR hB hG hat) | (at_builtin; refine Kd.G_append (Kd.int .u8) (w0 := w0) w0.heap.size rfl (.tmp 107) (.tmp 108) 29 5 (.int .u8 0) 1 rfl Tryd.underlying29 info5 rfl (by decide) (by omega) v2 (l ++ r ++ [92]) 116 [.int .u8 116] (fun k => P0 k ∨ w.heap.size ≤ k) (fun _ => False) rfl rfl rfl (fun _ hk => hk.elim) (fun k hk => Q2.out.fresh k hk) Q2.out.R Q2.out.B Q2.out.B.size (by have := HLEN.out; have := HR.out.2; rw [Nat.mul_one]; (try simp only [List.length_append, List.length_cons, List.length_nil]); omega) ?_; intro v3 w3 hR hB hG hat; have Q3 := Aside0.mk (Q2.out.grown hR hB hG); clear hR hB hG hat))
        go_roundg (gk - 1)
        case measure => have := HK.out; have := HHT.out; omega
        case rel => exact ⟨t.extract n t.size, r ++ [92] ++ [116], by first | rfl | (simp; done), ⟨by have := HTS.out; have := HK.out; have := HF.out.2.1; have := HF.out.2.2.1; omega⟩, ⟨by have h := Q3.out; simpa only [List.append_assoc] using h⟩, ⟨⟨by have h := HR.out.1.step HHT.out HPC.out (by have := HTS.out; have := HF.out.2.1; have := HF.out.2.2.1; omega); simpa only [List.append_assoc] using h, by have := HRL.out.2; have := HTS.out; have := HF.out.2.1; have := HF.out.2.2.1;  simp only [List.length_append, List.length_cons, List.length_nil]; omega⟩⟩⟩
      by_cases h6 : rI = 127
      · have HPC := Aside0.mk (show pc t = ([92] ++ [120] ++ zf2 (rI) ++ hexL 6 (rI).toNat, t.extract n t.size) from HPT.out.trans (by unfold pcs; rw [if_neg hbad, if_neg h1, if_neg h2, if_neg h3, if_neg h4, if_neg h5, if_pos h6]))
        have hX : rI = 127 := by omega
        subst hX
        obtain ⟨xn, hxn⟩ := Int.eq_ofNat_of_zero_le (show 0 ≤ (127 : Int) by omega)
        have hbl := Lib.bitLen_le xn 8 (by decide) (by omega)
        have HLN : Aside0 (∀ W, Calls Tryd.prog 92 #[.int .u32 (127 : Int)] W fun e w' => e = .returned (.int .i64 (Lib.bitLen xn : Int)) ∧ w' = W) := Aside0.mk (fun W => by have h := Tryd.bits_Len32 (127 : Int) W (by omega) (by omega); rw [show ((127 : Int)).toNat = xn by omega] at h; exact h)
        obtain ⟨bl, hbl0⟩ : ∃ b, b = Lib.bitLen xn := ⟨_, rfl⟩
        rw [← hbl0] at hbl HLN
        obtain ⟨dI, hdI⟩ : ∃ x : Int, x = (bl : Int) - 1 := ⟨_, rfl⟩
        obtain ⟨qI, hqI⟩ : ∃ x : Int, x = dI.tdiv 4 := ⟨_, rfl⟩
        have hqb : 0 ≤ qI ∧ qI ≤ 1 := by
          rw [hqI]
          rcases (show dI = -1 ∨ 0 ≤ dI by omega) with h | h
          · rw [h]; decide
          · rw [Int.tdiv_eq_ediv_of_nonneg h]; omega
        obtain ⟨kk, hkk⟩ := Int.eq_ofNat_of_zero_le (show 0 ≤ 1 + qI by omega)
        have g1 : wrap64 ((bl : Int) - 1) = dI := by unfold wrap64; omega
        have g2 : wrap64 (dI.tdiv 4) = qI := by rw [← hqI]; unfold wrap64; omega
        have g3 : wrap64 (1 + qI) = (kk : Int) := by unfold wrap64; omega
        have g4 : dI.tdiv 4 = qI := hqI.symm
        have g10 : wrap64 qI = qI := by unfold wrap64; omega
        have g5 := eq_true (show (0 : Int) ≤ (kk : Int) by omega)
        have g6 := eq_true (show (kk : Int) ≤ 2 by omega)
        have g6b := eq_true (show kk ≤ 2 by omega)
        have g7 : ((kk : Int)).toNat = kk := by omega
        have g8 : IntKind.u32.wrap ((127 : Int)) = (127 : Int) := by rw [IntKind.wrap_u32]; omega
        have g9 : IntKind.u64.wrap ((127 : Int)) = (127 : Int) := by rw [IntKind.wrap_u64]; omega
        have HHEX : Aside0 (∀ W v l2, Qr w0 w W P0 v l2 → l2.length + 100 ≤ 140737488355328 → Calls Tryd.prog 81 #[v, .int .u64 (127 : Int), .int .i64 16] W (fun e w' => (hexL 6 xn).length ≤ 6 ∧ AddP w0 W (fun k => P0 k ∨ w.heap.size ≤ k) l2 (hexL 6 xn) e w')) := Aside0.mk (fun W v l2 hq hl2 => by rw [hxn]; exact aup16 xn (by omega) _ v l2 w0 W hl2 hq.B hq.R (HT.out.on hq.B))
        have HXN := Aside0.mk (show ((127 : Int)).toNat = xn by omega)
        have HZF := Aside0.mk (show zf2 ((127 : Int)) = bytesOf ((⟨#[48, 48]⟩ : ByteArray).extract kk 2) by unfold zf2; rw [HXN.out, ← hbl0, ← hdI, ← hqI, hkk]; rfl)
        clear hbl hdI hqI hqb hkk hxn hbl0
        go_wp2_with (first | (go_at_call 91; go_must (refine (HDEC.out _ Q0.out.B).mono ?_; rintro e1 w1 ⟨rfl, hb⟩; have Q1 := Aside0.mk (Q0.out.below hb); clear hb)) | (at_builtin; refine Kd.G_append (Kd.int .u8) (w0 := w0) w0.heap.size rfl (.tmp 67) (.tmp 68) 29 5 (.int .u8 0) 1 rfl Tryd.underlying29 info5 rfl (by decide) (by omega) u0 (l ++ r) 92 [.int .u8 92] (fun k => P0 k ∨ w.heap.size ≤ k) (fun _ => False) rfl rfl rfl (fun _ hk => hk.elim) (fun k hk => Q1.out.fresh k hk) Q1.out.R Q1.out.B Q1.out.B.size (by have := HLEN.out; have := HR.out.2; rw [Nat.mul_one]; (try simp only [List.length_append, List.length_cons, List.length_nil]); omega) ?_; intro v2 w2 hR hB hG hat; have Q2 := Aside0.mk (Q1.out.grown hR hB hG); clear hR hB hG hat) | (at_builtin; refine Kd.G_append (Kd.int .u8) (w0 := w0) w0.heap.size rfl (.tmp 71) (.tmp 72) 29 5 (.int .u8 0) 1 rfl Tryd.underlying29 info5 rfl (by decide) (by omega) v2 (l ++ r ++ [92]) 120 [.int .u8 120] (fun k => P0 k ∨ w.heap.size ≤ k) (fun _ => False) rfl rfl rfl (fun _ hk => hk.elim) (fun k hk => Q2.out.fresh k hk) Q2.out.R Q2.out.B Q2.out.B.size (by have := HLEN.out; have := HR.out.2; rw [Nat.mul_one]; (try simp only [List.length_append, List.length_cons, List.length_nil]); omega) ?_; intro v3 w3 hR hB hG hat; have Q3 := Aside0.mk (Q2.out.grown hR hB hG); clear hR hB hG hat) | (go_at_call 92; go_must (refine (HLN.out _).mono ?_; rintro e3 w3_ ⟨rfl, rfl⟩)) | (at_builtin; refine wpList_app_str (w0 := w0) w0.heap.size rfl (.tmp 74) (.tmp 81) 29 9 5 rfl Tryd.underlying29 Tryd.underlying9 info5 (fun k => P0 k ∨ w.heap.size ≤ k) v3 (l ++ r ++ [92] ++ [120]) _ rfl rfl Q3.out.R Q3.out.B Q3.out.B.size (by have := HLEN.out; have := HR.out.2; have hz_ : (⟨#[48, 48]⟩ : ByteArray).size = 2 := rfl; (try simp only [List.length_append, List.length_cons, List.length_nil, ByteArray.size_extract]); omega) ?_; intro v4 w4 hR hB hK; have hq := Q3.out.kept hR hB hK; generalize hzz : bytesOf _ = zb at hq; have HZ := Aside0.mk (And.intro (hzz.symm.trans HZF.out.symm) (show zb.length ≤ 2 by rw [← hzz]; exact ext_len _ _ _)); have Q4 := Aside0.mk hq; clear hR hB hK hq hzz) | (go_at_call 81; go_must (refine (HHEX.out _ v4 (l ++ r ++ [92] ++ [120] ++ zb) Q4.out (by have := HLEN.out; have := HR.out.2; have := HZ.out.2; (try simp only [List.length_append, List.length_cons, List.length_nil]); omega)).mono ?_; rintro e5 w5 ⟨x2, v5, rfl, hR, hB, hK⟩; have Q5 := Aside0.mk (Q4.out.kept hR hB hK); have HXX := Aside0.mk (And.intro trivial x2); clear hR hB hK x2)))
        go_roundg (gk - 1)
        case measure => have := HK.out; have := HHT.out; omega
        case rel => exact ⟨t.extract n t.size, r ++ [92] ++ [120] ++ zb ++ hexL 6 xn, by first | rfl | (simp; done), ⟨by have := HTS.out; have := HK.out; have := HF.out.2.1; have := HF.out.2.2.1; omega⟩, ⟨by have h := Q5.out; simpa only [List.append_assoc] using h⟩, ⟨⟨by have h := HR.out.1.step HHT.out HPC.out (by have := HTS.out; have := HF.out.2.1; have := HF.out.2.2.1; omega); rw [HXN.out, ← HZ.out.1] at h; simpa only [List.append_assoc] using h, by have := HRL.out.2; have := HTS.out; have := HF.out.2.1; have := HF.out.2.2.1; have := HZ.out.2; have := HXX.out.2; simp only [List.length_append, List.length_cons, List.length_nil]; omega⟩⟩⟩
      by_cases h8 : rI < 32
      · have HPC := Aside0.mk (show pc t = ([92] ++ [120] ++ zf2 (rI) ++ hexL 6 (rI).toNat, t.extract n t.size) from HPT.out.trans (by unfold pcs; rw [if_neg hbad, if_neg h1, if_neg h2, if_neg h3, if_neg h4, if_neg h5, if_neg h6, if_pos h8]))
        have q0 : (rI == 65533) = false := beq_eq_false_iff_ne.mpr (by omega)
        have q1 : decide (rI < 32) = true := decide_eq_true (by omega)
        have q2 : (rI == 34) = false := beq_eq_false_iff_ne.mpr (by omega)
        have q3 : (rI == 92) = false := beq_eq_false_iff_ne.mpr (by omega)
        have q4 : (rI == 10) = false := beq_eq_false_iff_ne.mpr (by omega)
        have q5 : (rI == 13) = false := beq_eq_false_iff_ne.mpr (by omega)
        have q6 : (rI == 9) = false := beq_eq_false_iff_ne.mpr (by omega)
        have q7 : (rI == 127) = false := beq_eq_false_iff_ne.mpr (by omega)
        obtain ⟨xn, hxn⟩ := Int.eq_ofNat_of_zero_le (show 0 ≤ rI by omega)
        have hbl := Lib.bitLen_le xn 8 (by decide) (by omega)
        have HLN : Aside0 (∀ W, Calls Tryd.prog 92 #[.int .u32 rI] W fun e w' => e = .returned (.int .i64 (Lib.bitLen xn : Int)) ∧ w' = W) := Aside0.mk (fun W => by have h := Tryd.bits_Len32 rI W (by omega) (by omega); rw [show (rI).toNat = xn by omega] at h; exact h)
        obtain ⟨bl, hbl0⟩ : ∃ b, b = Lib.bitLen xn := ⟨_, rfl⟩
        rw [← hbl0] at hbl HLN
        obtain ⟨dI, hdI⟩ : ∃ x : Int, x = (bl : Int) - 1 := ⟨_, rfl⟩
        obtain ⟨qI, hqI⟩ : ∃ x : Int, x = dI.tdiv 4 := ⟨_, rfl⟩
        have hqb : 0 ≤ qI ∧ qI ≤ 1 := by
          rw [hqI]
          rcases (show dI = -1 ∨ 0 ≤ dI by omega) with h | h
          · rw [h]; decide
          · rw [Int.tdiv_eq_ediv_of_nonneg h]; omega
        obtain ⟨kk, hkk⟩ := Int.eq_ofNat_of_zero_le (show 0 ≤ 1 + qI by omega)
        have g1 : wrap64 ((bl : Int) - 1) = dI := by unfold wrap64; omega
        have g2 : wrap64 (dI.tdiv 4) = qI := by rw [← hqI]; unfold wrap64; omega
        have g3 : wrap64 (1 + qI) = (kk : Int) := by unfold wrap64; omega
        have g4 : dI.tdiv 4 = qI := hqI.symm
        have g10 : wrap64 qI = qI := by unfold wrap64; omega
        have g5 := eq_true (show (0 : Int) ≤ (kk : Int) by omega)
        have g6 := eq_true (show (kk : Int) ≤ 2 by omega)
        have g6b := eq_true (show kk ≤ 2 by omega)
        have g7 : ((kk : Int)).toNat = kk := by omega
        have g8 : IntKind.u32.wrap (rI) = rI := by rw [IntKind.wrap_u32]; omega
        have g9 : IntKind.u64.wrap (rI) = rI := by rw [IntKind.wrap_u64]; omega
        have HHEX : Aside0 (∀ W v l2, Qr w0 w W P0 v l2 → l2.length + 100 ≤ 140737488355328 → Calls Tryd.prog 81 #[v, .int .u64 rI, .int .i64 16] W (fun e w' => (hexL 6 xn).length ≤ 6 ∧ AddP w0 W (fun k => P0 k ∨ w.heap.size ≤ k) l2 (hexL 6 xn) e w')) := Aside0.mk (fun W v l2 hq hl2 => by rw [hxn]; exact aup16 xn (by omega) _ v l2 w0 W hl2 hq.B hq.R (HT.out.on hq.B))
        have HXN := Aside0.mk (show (rI).toNat = xn by omega)
        have HZF := Aside0.mk (show zf2 (rI) = bytesOf ((⟨#[48, 48]⟩ : ByteArray).extract kk 2) by unfold zf2; rw [HXN.out, ← hbl0, ← hdI, ← hqI, hkk]; rfl)
        clear hbl hdI hqI hqb hkk hxn hbl0
        go_wp2_with (first | (go_at_call 91; go_must (refine (HDEC.out _ Q0.out.B).mono ?_; rintro e1 w1 ⟨rfl, hb⟩; have Q1 := Aside0.mk (Q0.out.below hb); clear hb)) | (at_builtin; refine Kd.G_append (Kd.int .u8) (w0 := w0) w0.heap.size rfl (.tmp 67) (.tmp 68) 29 5 (.int .u8 0) 1 rfl Tryd.underlying29 info5 rfl (by decide) (by omega) u0 (l ++ r) 92 [.int .u8 92] (fun k => P0 k ∨ w.heap.size ≤ k) (fun _ => False) rfl rfl rfl (fun _ hk => hk.elim) (fun k hk => Q1.out.fresh k hk) Q1.out.R Q1.out.B Q1.out.B.size (by have := HLEN.out; have := HR.out.2; rw [Nat.mul_one]; (try simp only [List.length_append, List.length_cons, List.length_nil]); omega) ?_; intro v2 w2 hR hB hG hat; have Q2 := Aside0.mk (Q1.out.grown hR hB hG); clear hR hB hG hat) | (at_builtin; refine Kd.G_append (Kd.int .u8) (w0 := w0) w0.heap.size rfl (.tmp 71) (.tmp 72) 29 5 (.int .u8 0) 1 rfl Tryd.underlying29 info5 rfl (by decide) (by omega) v2 (l ++ r ++ [92]) 120 [.int .u8 120] (fun k => P0 k ∨ w.heap.size ≤ k) (fun _ => False) rfl rfl rfl (fun _ hk => hk.elim) (fun k hk => Q2.out.fresh k hk) Q2.out.R Q2.out.B Q2.out.B.size (by have := HLEN.out; have := HR.out.2; rw [Nat.mul_one]; (try simp only [List.length_append, List.length_cons, List.length_nil]); omega) ?_; intro v3 w3 hR hB hG hat; have Q3 := Aside0.mk (Q2.out.grown hR hB hG); clear hR hB hG hat) | (go_at_call 92; go_must (refine (HLN.out _).mono ?_; rintro e3 w3_ ⟨rfl, rfl⟩)) | (at_builtin; refine wpList_app_str (w0 := w0) w0.heap.size rfl (.tmp 74) (.tmp 81) 29 9 5 rfl Tryd.underlying29 Tryd.underlying9 info5 (fun k => P0 k ∨ w.heap.size ≤ k) v3 (l ++ r ++ [92] ++ [120]) _ rfl rfl Q3.out.R Q3.out.B Q3.out.B.size (by have := HLEN.out; have := HR.out.2; have hz_ : (⟨#[48, 48]⟩ : ByteArray).size = 2 := rfl; (try simp only [List.length_append, List.length_cons, List.length_nil, ByteArray.size_extract]); omega) ?_; intro v4 w4 hR hB hK; have hq := Q3.out.kept hR hB hK; generalize hzz : bytesOf _ = zb at hq; have HZ := Aside0.mk (And.intro (hzz.symm.trans HZF.out.symm) (show zb.length ≤ 2 by rw [← hzz]; exact ext_len _ _ _)); have Q4 := Aside0.mk hq; clear hR hB hK hq hzz) | (go_at_call 81; go_must (refine (HHEX.out _ v4 (l ++ r ++ [92] ++ [120] ++ zb) Q4.out (by have := HLEN.out; have := HR.out.2; have := HZ.out.2; (try simp only [List.length_append, List.length_cons, List.length_nil]); omega)).mono ?_; rintro e5 w5 ⟨x2, v5, rfl, hR, hB, hK⟩; have Q5 := Aside0.mk (Q4.out.kept hR hB hK); have HXX := Aside0.mk (And.intro trivial x2); clear hR hB hK x2)))
        go_roundg (gk - 1)
        case measure => have := HK.out; have := HHT.out; omega
        case rel => exact ⟨t.extract n t.size, r ++ [92] ++ [120] ++ zb ++ hexL 6 xn, by first | rfl | (simp; done), ⟨by have := HTS.out; have := HK.out; have := HF.out.2.1; have := HF.out.2.2.1; omega⟩, ⟨by have h := Q5.out; simpa only [List.append_assoc] using h⟩, ⟨⟨by have h := HR.out.1.step HHT.out HPC.out (by have := HTS.out; have := HF.out.2.1; have := HF.out.2.2.1; omega); rw [HXN.out, ← HZ.out.1] at h; simpa only [List.append_assoc] using h, by have := HRL.out.2; have := HTS.out; have := HF.out.2.1; have := HF.out.2.2.1; have := HZ.out.2; have := HXX.out.2; simp only [List.length_append, List.length_cons, List.length_nil]; omega⟩⟩⟩
      by_cases h9 : 128 ≤ rI ∧ rI ≤ 159
      · have HPC := Aside0.mk (show pc t = ([92] ++ [117] ++ zf4 (rI) ++ hexL 6 (rI).toNat, t.extract n t.size) from HPT.out.trans (by unfold pcs; rw [if_neg hbad, if_neg h1, if_neg h2, if_neg h3, if_neg h4, if_neg h5, if_neg h6, if_neg h8, if_pos h9]))
        have q0 : (rI == 65533) = false := beq_eq_false_iff_ne.mpr (by omega)
        have q1 : decide (rI < 32) = false := decide_eq_false (by omega)
        have q2 : (rI == 34) = false := beq_eq_false_iff_ne.mpr (by omega)
        have q3 : (rI == 92) = false := beq_eq_false_iff_ne.mpr (by omega)
        have q4 : (rI == 127) = false := beq_eq_false_iff_ne.mpr (by omega)
        have q5 : decide (128 ≤ rI) = true := decide_eq_true (by omega)
        have q6 : decide (rI ≤ 159) = true := decide_eq_true (by omega)
        have q7 : decide (rI ≤ 65535) = true := decide_eq_true (by omega)
        obtain ⟨xn, hxn⟩ := Int.eq_ofNat_of_zero_le (show 0 ≤ rI by omega)
        have hbl := Lib.bitLen_le xn 16 (by decide) (by omega)
        have HLN : Aside0 (∀ W, Calls Tryd.prog 92 #[.int .u32 rI] W fun e w' => e = .returned (.int .i64 (Lib.bitLen xn : Int)) ∧ w' = W) := Aside0.mk (fun W => by have h := Tryd.bits_Len32 rI W (by omega) (by omega); rw [show (rI).toNat = xn by omega] at h; exact h)
        obtain ⟨bl, hbl0⟩ : ∃ b, b = Lib.bitLen xn := ⟨_, rfl⟩
        rw [← hbl0] at hbl HLN
        obtain ⟨dI, hdI⟩ : ∃ x : Int, x = (bl : Int) - 1 := ⟨_, rfl⟩
        obtain ⟨qI, hqI⟩ : ∃ x : Int, x = dI.tdiv 4 := ⟨_, rfl⟩
        have hqb : 0 ≤ qI ∧ qI ≤ 3 := by
          rw [hqI]
          rcases (show dI = -1 ∨ 0 ≤ dI by omega) with h | h
          · rw [h]; decide
          · rw [Int.tdiv_eq_ediv_of_nonneg h]; omega
        obtain ⟨kk, hkk⟩ := Int.eq_ofNat_of_zero_le (show 0 ≤ 1 + qI by omega)
        have g1 : wrap64 ((bl : Int) - 1) = dI := by unfold wrap64; omega
        have g2 : wrap64 (dI.tdiv 4) = qI := by rw [← hqI]; unfold wrap64; omega
        have g3 : wrap64 (1 + qI) = (kk : Int) := by unfold wrap64; omega
        have g4 : dI.tdiv 4 = qI := hqI.symm
        have g10 : wrap64 qI = qI := by unfold wrap64; omega
        have g5 := eq_true (show (0 : Int) ≤ (kk : Int) by omega)
        have g6 := eq_true (show (kk : Int) ≤ 4 by omega)
        have g6b := eq_true (show kk ≤ 4 by omega)
        have g7 : ((kk : Int)).toNat = kk := by omega
        have g8 : IntKind.u32.wrap (rI) = rI := by rw [IntKind.wrap_u32]; omega
        have g9 : IntKind.u64.wrap (rI) = rI := by rw [IntKind.wrap_u64]; omega
        have HHEX : Aside0 (∀ W v l2, Qr w0 w W P0 v l2 → l2.length + 100 ≤ 140737488355328 → Calls Tryd.prog 81 #[v, .int .u64 rI, .int .i64 16] W (fun e w' => (hexL 6 xn).length ≤ 6 ∧ AddP w0 W (fun k => P0 k ∨ w.heap.size ≤ k) l2 (hexL 6 xn) e w')) := Aside0.mk (fun W v l2 hq hl2 => by rw [hxn]; exact aup16 xn (by omega) _ v l2 w0 W hl2 hq.B hq.R (HT.out.on hq.B))
        have HXN := Aside0.mk (show (rI).toNat = xn by omega)
        have HZF := Aside0.mk (show zf4 (rI) = bytesOf ((⟨#[48, 48, 48, 48]⟩ : ByteArray).extract kk 4) by unfold zf4; rw [HXN.out, ← hbl0, ← hdI, ← hqI, hkk]; rfl)
        clear hbl hdI hqI hqb hkk hxn hbl0
        go_wp2_with (first | (go_at_call 91; go_must (refine (HDEC.out _ Q0.out.B).mono ?_; rintro e1 w1 ⟨rfl, hb⟩; have Q1 := Aside0.mk (Q0.out.below hb); clear hb)) | (at_builtin; refine Kd.G_append (Kd.int .u8) (w0 := w0) w0.heap.size rfl (.tmp 113) (.tmp 114) 29 5 (.int .u8 0) 1 rfl Tryd.underlying29 info5 rfl (by decide) (by omega) u0 (l ++ r) 92 [.int .u8 92] (fun k => P0 k ∨ w.heap.size ≤ k) (fun _ => False) rfl rfl rfl (fun _ hk => hk.elim) (fun k hk => Q1.out.fresh k hk) Q1.out.R Q1.out.B Q1.out.B.size (by have := HLEN.out; have := HR.out.2; rw [Nat.mul_one]; (try simp only [List.length_append, List.length_cons, List.length_nil]); omega) ?_; intro v2 w2 hR hB hG hat; have Q2 := Aside0.mk (Q1.out.grown hR hB hG); clear hR hB hG hat) | (at_builtin; refine Kd.G_append (Kd.int .u8) (w0 := w0) w0.heap.size rfl (.tmp 118) (.tmp 119) 29 5 (.int .u8 0) 1 rfl Tryd.underlying29 info5 rfl (by decide) (by omega) v2 (l ++ r ++ [92]) 117 [.int .u8 117] (fun k => P0 k ∨ w.heap.size ≤ k) (fun _ => False) rfl rfl rfl (fun _ hk => hk.elim) (fun k hk => Q2.out.fresh k hk) Q2.out.R Q2.out.B Q2.out.B.size (by have := HLEN.out; have := HR.out.2; rw [Nat.mul_one]; (try simp only [List.length_append, List.length_cons, List.length_nil]); omega) ?_; intro v3 w3 hR hB hG hat; have Q3 := Aside0.mk (Q2.out.grown hR hB hG); clear hR hB hG hat) | (go_at_call 92; go_must (refine (HLN.out _).mono ?_; rintro e3 w3_ ⟨rfl, rfl⟩)) | (at_builtin; refine wpList_app_str (w0 := w0) w0.heap.size rfl (.tmp 121) (.tmp 128) 29 9 5 rfl Tryd.underlying29 Tryd.underlying9 info5 (fun k => P0 k ∨ w.heap.size ≤ k) v3 (l ++ r ++ [92] ++ [117]) _ rfl rfl Q3.out.R Q3.out.B Q3.out.B.size (by have := HLEN.out; have := HR.out.2; have hz_ : (⟨#[48, 48, 48, 48]⟩ : ByteArray).size = 4 := rfl; (try simp only [List.length_append, List.length_cons, List.length_nil, ByteArray.size_extract]); omega) ?_; intro v4 w4 hR hB hK; have hq := Q3.out.kept hR hB hK; generalize hzz : bytesOf _ = zb at hq; have HZ := Aside0.mk (And.intro (hzz.symm.trans HZF.out.symm) (show zb.length ≤ 4 by rw [← hzz]; exact ext_len _ _ _)); have Q4 := Aside0.mk hq; clear hR hB hK hq hzz) | (go_at_call 81; go_must (refine (HHEX.out _ v4 (l ++ r ++ [92] ++ [117] ++ zb) Q4.out (by have := HLEN.out; have := HR.out.2; have := HZ.out.2; (try simp only [List.length_append, List.length_cons, List.length_nil]); omega)).mono ?_; rintro e5 w5 ⟨x2, v5, rfl, hR, hB, hK⟩; have Q5 := Aside0.mk (Q4.out.kept hR hB hK); have HXX := Aside0.mk (And.intro trivial x2); clear hR hB hK x2)))
        go_roundg (gk - 1)
        case measure => have := HK.out; have := HHT.out; omega
        case rel => exact ⟨t.extract n t.size, r ++ [92] ++ [117] ++ zb ++ hexL 6 xn, by first | rfl | (simp; done), ⟨by have := HTS.out; have := HK.out; have := HF.out.2.1; have := HF.out.2.2.1; omega⟩, ⟨by have h := Q5.out; simpa only [List.append_assoc] using h⟩, ⟨⟨by have h := HR.out.1.step HHT.out HPC.out (by have := HTS.out; have := HF.out.2.1; have := HF.out.2.2.1; omega); rw [HXN.out, ← HZ.out.1] at h; simpa only [List.append_assoc] using h, by have := HRL.out.2; have := HTS.out; have := HF.out.2.1; have := HF.out.2.2.1; have := HZ.out.2; have := HXX.out.2; simp only [List.length_append, List.length_cons, List.length_nil]; omega⟩⟩⟩
      by_cases h7 : rI = 65533
      · have HPC := Aside0.mk (show pc t = (bytesOf (t.extract 0 (n + ixN (t.extract n t.size))), t.extract (n + ixN (t.extract n t.size)) t.size) from HPT.out.trans (by unfold pcs; rw [if_neg hbad, if_neg h1, if_neg h2, if_neg h3, if_neg h4, if_neg h5, if_neg h6, if_neg h8, if_neg h9]))
        have hX : rI = 65533 := by omega
        subst hX
        have hn1b : ((n : Int) == 1) = false := beq_eq_false_iff_ne.mpr (by omega)
        obtain ⟨j1, j3⟩ := ix (t.extract n t.size) (by have := HTS.out; have := HLEN.out.2; have := HRL.out.2; omega)
        obtain ⟨j, hjj⟩ : ∃ j, j = ixN (t.extract n t.size) := ⟨_, rfl⟩
        rw [← hjj] at j1 j3 HPC
        have HIX2 := Aside0.mk j3
        clear hjj j3
        have hnj : j ≤ t.size - n := by have := HTS.out; omega
        have hts2 : t.size ≤ 1002 := by have := HRL.out.2; have := HLEN.out.2; omega
        obtain ⟨nj, hnj2⟩ : ∃ x : Nat, x = n + j := ⟨_, rfl⟩
        have k1 : wrap64 ((n : Int) + (j : Int)) = (nj : Int) := by have := HF.out.2.2.1; unfold wrap64; omega
        have k1b : IntKind.i64.wrap ((n : Int) + (j : Int)) = (nj : Int) := by have := HF.out.2.2.1; rw [IntKind.wrap_i64]; omega
        have k2 := eq_true (show (0 : Int) ≤ (nj : Int) by omega)
        have k3 := eq_true (show (nj : Int) ≤ (t.size : Int) by have := HF.out.2.2.1; omega)
        have k4 : ((nj : Int)).toNat = nj := by omega
        rw [← hnj2] at HPC
        have HNJ := Aside0.mk (And.intro hnj2 hnj)
        clear hnj hts2 hnj2 j1
        go_wp2_with (first | (go_at_call 91; go_must (refine (HDEC.out _ Q0.out.B).mono ?_; rintro e1 w1 ⟨rfl, hb⟩; have Q1 := Aside0.mk (Q0.out.below hb); clear hb)) | (go_at_call 90; go_must (refine (HIX2.out _).mono ?_; rintro e2 w2 ⟨rfl, hd⟩; have Q2 := Aside0.mk (Q1.out.below hd.below); clear hd)))
        refine start_ (n := 14) (S := fun w' => True) (ds := []) #[false, false, false, false, false, false, false, false, false, false, false, false, false, false] (by kernel_rfl) rfl rfl trivial (fun hHeld => ?_)
        refine pure_ (i := 0) (N := some 157) (v := ?_) (a' := ?_) #[true, false, false, false, false, false, false, false, false, false, false, false, false, false] rfl rfl (by kernel_rfl) (fun _ _ _ h => h) (Or.inl ⟨by rfl, ?_⟩) ?_ ?_
        rotate_left
        · intro w'
          go_simp
          with_reducible rfl
        rotate_left
        · simp only [Act.put, List.setIfInBounds_toArray, List.set_cons_zero, List.set_cons_succ, i64_w, i32_w]
          rfl
        refine pure_ (i := 1) (N := some 158) (v := ?_) (a' := ?_) #[true, true, false, false, false, false, false, false, false, false, false, false, false, false] rfl rfl (by kernel_rfl) (fun _ _ _ h => h) (Or.inl ⟨by rfl, ?_⟩) ?_ ?_
        rotate_left
        · intro w'
          go_simp
          with_reducible rfl
        rotate_left
        · simp only [Act.put, List.setIfInBounds_toArray, List.set_cons_zero, List.set_cons_succ, i64_w, i32_w]
          rfl
        refine pure_ (i := 2) (N := some 159) (v := ?_) (a' := ?_) #[true, true, true, false, false, false, false, false, false, false, false, false, false, false] rfl rfl (by kernel_rfl) (fun _ _ _ h => h) (Or.inl ⟨by rfl, ?_⟩) ?_ ?_
        rotate_left
        · intro w'
          go_simp
          with_reducible rfl
        rotate_left
        · simp only [Act.put, List.setIfInBounds_toArray, List.set_cons_zero, List.set_cons_succ, i64_w, i32_w]
          rfl
        refine pure_ (i := 3) (N := some 160) (v := ?_) (a' := ?_) #[true, true, true, true, false, false, false, false, false, false, false, false, false, false] rfl rfl (by kernel_rfl) (fun _ _ _ h => h) (Or.inl ⟨by rfl, ?_⟩) ?_ ?_
        rotate_left
        · intro w'
          go_simp
          with_reducible rfl
        rotate_left
        · simp only [Act.put, List.setIfInBounds_toArray, List.set_cons_zero, List.set_cons_succ, i64_w, i32_w]
          rfl
        refine pure_ (i := 4) (N := some 161) (v := ?_) (a' := ?_) #[true, true, true, true, true, false, false, false, false, false, false, false, false, false] rfl rfl (by kernel_rfl) (fun _ _ _ h => h) (Or.inl ⟨by rfl, ?_⟩) ?_ ?_
        rotate_left
        · intro w'
          go_simp
          with_reducible rfl
        rotate_left
        · simp only [Act.put, List.setIfInBounds_toArray, List.set_cons_zero, List.set_cons_succ, i64_w, i32_w]
          rfl
        refine pure_ (i := 5) (N := some 162) (v := ?_) (a' := ?_) #[true, true, true, true, true, true, false, false, false, false, false, false, false, false] rfl rfl (by kernel_rfl) (fun _ _ _ h => h) (Or.inl ⟨by rfl, ?_⟩) ?_ ?_
        rotate_left
        · intro w'
          go_simp
          with_reducible rfl
        rotate_left
        · simp only [Act.put, List.setIfInBounds_toArray, List.set_cons_zero, List.set_cons_succ, i64_w, i32_w]
          rfl
        refine pure_ (i := 6) (N := some 163) (v := ?_) (a' := ?_) #[true, true, true, true, true, true, true, false, false, false, false, false, false, false] rfl rfl (by kernel_rfl) (fun _ _ _ h => h) (Or.inl ⟨by rfl, ?_⟩) ?_ ?_
        rotate_left
        · intro w'
          go_simp
          with_reducible rfl
        rotate_left
        · simp only [Act.put, List.setIfInBounds_toArray, List.set_cons_zero, List.set_cons_succ, i64_w, i32_w]
          rfl
        refine pure_ (i := 7) (N := some 164) (v := ?_) (a' := ?_) #[true, true, true, true, true, true, true, true, false, false, false, false, false, false] rfl rfl (by kernel_rfl) (fun _ _ _ h => h) (Or.inl ⟨by rfl, ?_⟩) ?_ ?_
        rotate_left
        · intro w'
          go_simp
          with_reducible rfl
        rotate_left
        · simp only [Act.put, List.setIfInBounds_toArray, List.set_cons_zero, List.set_cons_succ, i64_w, i32_w]
          rfl
        refine pure_ (i := 8) (N := some 165) (v := ?_) (a' := ?_) #[true, true, true, true, true, true, true, true, true, false, false, false, false, false] rfl rfl (by kernel_rfl) (fun _ _ _ h => h) (Or.inl ⟨by rfl, ?_⟩) ?_ ?_
        rotate_left
        · intro w'
          go_simp
          with_reducible rfl
        rotate_left
        · simp only [Act.put, List.setIfInBounds_toArray, List.set_cons_zero, List.set_cons_succ, i64_w, i32_w]
          rfl
        refine pure_ (i := 9) (N := some 166) (v := ?_) (a' := ?_) #[true, true, true, true, true, true, true, true, true, true, false, false, false, false] rfl rfl (by kernel_rfl) (fun _ _ _ h => h) (Or.inl ⟨by rfl, ?_⟩) ?_ ?_
        rotate_left
        · intro w'
          go_simp
          with_reducible rfl
        rotate_left
        · simp only [Act.put, List.setIfInBounds_toArray, List.set_cons_zero, List.set_cons_succ, i64_w, i32_w]
          rfl
        refine pure_ (i := 10) (N := some 167) (v := ?_) (a' := ?_) #[true, true, true, true, true, true, true, true, true, true, true, false, false, false] rfl rfl (by kernel_rfl) (fun _ _ _ h => h) (Or.inl ⟨by rfl, ?_⟩) ?_ ?_
        rotate_left
        · intro w'
          go_simp
          with_reducible rfl
        rotate_left
        · simp only [Act.put, List.setIfInBounds_toArray, List.set_cons_zero, List.set_cons_succ, i64_w, i32_w]
          rfl
        refine one_ (i := 11) (N := some 168) #[true, true, true, true, true, true, true, true, true, true, true, true, false, false] rfl rfl (by kernel_rfl) (by decide) (fun K hK => ?_)
        refine step_app_str (w0 := w0) w0.heap.size (by rfl) (.tmp 162) (.tmp 167) 29 9 5 (by rfl) Tryd.underlying29 Tryd.underlying9 info5 (fun k => P0 k ∨ w.heap.size ≤ k) u0 (l ++ r) (t.extract 0 nj) (by rfl) (by rfl) (fun k hk => Q2.out.fresh k hk) (Q2.out.below (below_drew (Below.refl _ _))).R (Q2.out.below (below_drew (Below.refl _ _))).B Q2.out.B.size (by have := HLEN.out; have := HR.out.2; have := HNJ.out; have := HTS.out; have := HRL.out.2; (try simp only [List.length_append, ByteArray.size_extract]); omega) ?_
        intro v3 w3 hR hB hK; have Q3 := Aside0.mk ((Q2.out.below (below_drew (Below.refl _ _))).kept (Kd.G_mono hR (fun _ h => .inl h)) hB hK); clear hR hB hK
        refine hK.out _ _ trivial (fun hHeld => ?_)
        clear hK K
        refine norm_ (a' := ?_) ?_ ?_
        rotate_left
        · show Act.put _ (some 168) _ = _
          simp only [Act.put, List.setIfInBounds_toArray, List.set_cons_zero, List.set_cons_succ, i64_w, i32_w]
          rfl
        refine pure_ (i := 12) (N := some 1) (v := ?_) (a' := ?_) #[true, true, true, true, true, true, true, true, true, true, true, true, true, false] rfl rfl (by kernel_rfl) (fun _ _ _ h => h) (Or.inl ⟨by rfl, ?_⟩) ?_ ?_
        rotate_left
        · intro w'
          go_simp
          with_reducible rfl
        rotate_left
        · simp only [Act.put, List.setIfInBounds_toArray, List.set_cons_zero, List.set_cons_succ, i64_w, i32_w]
          rfl
        refine pure_ (i := 13) (N := some 0) (v := ?_) (a' := ?_) #[true, true, true, true, true, true, true, true, true, true, true, true, true, true] rfl rfl (by kernel_rfl) (fun _ _ _ h => h) (Or.inl ⟨by rfl, ?_⟩) ?_ ?_
        rotate_left
        · intro w'
          go_simp
          with_reducible rfl
        rotate_left
        · simp only [Act.put, List.setIfInBounds_toArray, List.set_cons_zero, List.set_cons_succ, i64_w, i32_w]
          rfl
        refine done_ (by kernel_rfl) ?_
        go_wp2_with fail
        go_roundg (gk - 1)
        case measure => have := HK.out; have := HHT.out; omega
        case rel => exact ⟨t.extract nj t.size, r ++ bytesOf (t.extract 0 nj), by first | rfl | (simp; done), ⟨by rw [ByteArray.size_extract]; have := HNJ.out; have := HK.out; have := HF.out.2.1; have := HF.out.2.2.1; omega⟩, ⟨by have h := Q3.out; simpa only [List.append_assoc] using h⟩, ⟨⟨HR.out.1.step HHT.out HPC.out (by rw [ByteArray.size_extract]; have := HNJ.out; have := HF.out.2.1; have := HF.out.2.2.1; omega), by rw [List.length_append, bytesOf_length, ByteArray.size_extract, ByteArray.size_extract]; have := HRL.out.2; have := HNJ.out; have := HF.out.2.1; have := HF.out.2.2.1; omega⟩⟩⟩
      by_cases h10 : 128 ≤ rI
      · have HPC := Aside0.mk (show pc t = (bytesOf (t.extract 0 (n + ixN (t.extract n t.size))), t.extract (n + ixN (t.extract n t.size)) t.size) from HPT.out.trans (by unfold pcs; rw [if_neg hbad, if_neg h1, if_neg h2, if_neg h3, if_neg h4, if_neg h5, if_neg h6, if_neg h8, if_neg h9]))
        have q0 : (rI == 65533) = false := beq_eq_false_iff_ne.mpr (by omega)
        have q1 : decide (rI < 32) = false := decide_eq_false (by omega)
        have q2 : (rI == 34) = false := beq_eq_false_iff_ne.mpr (by omega)
        have q3 : (rI == 92) = false := beq_eq_false_iff_ne.mpr (by omega)
        have q4 : (rI == 127) = false := beq_eq_false_iff_ne.mpr (by omega)
        have q5 : decide (128 ≤ rI) = true := decide_eq_true (by omega)
        have q6 : decide (rI ≤ 159) = false := decide_eq_false (by omega)
        obtain ⟨j1, j3⟩ := ix (t.extract n t.size) (by have := HTS.out; have := HLEN.out.2; have := HRL.out.2; omega)
        obtain ⟨j, hjj⟩ : ∃ j, j = ixN (t.extract n t.size) := ⟨_, rfl⟩
        rw [← hjj] at j1 j3 HPC
        have HIX2 := Aside0.mk j3
        clear hjj j3
        have hnj : j ≤ t.size - n := by have := HTS.out; omega
        have hts2 : t.size ≤ 1002 := by have := HRL.out.2; have := HLEN.out.2; omega
        obtain ⟨nj, hnj2⟩ : ∃ x : Nat, x = n + j := ⟨_, rfl⟩
        have k1 : wrap64 ((n : Int) + (j : Int)) = (nj : Int) := by have := HF.out.2.2.1; unfold wrap64; omega
        have k1b : IntKind.i64.wrap ((n : Int) + (j : Int)) = (nj : Int) := by have := HF.out.2.2.1; rw [IntKind.wrap_i64]; omega
        have k2 := eq_true (show (0 : Int) ≤ (nj : Int) by omega)
        have k3 := eq_true (show (nj : Int) ≤ (t.size : Int) by have := HF.out.2.2.1; omega)
        have k4 : ((nj : Int)).toNat = nj := by omega
        rw [← hnj2] at HPC
        have HNJ := Aside0.mk (And.intro hnj2 hnj)
        clear hnj hts2 hnj2 j1
        go_wp2_with (first | (go_at_call 91; go_must (refine (HDEC.out _ Q0.out.B).mono ?_; rintro e1 w1 ⟨rfl, hb⟩; have Q1 := Aside0.mk (Q0.out.below hb); clear hb)) | (go_at_call 90; go_must (refine (HIX2.out _).mono ?_; rintro e2 w2 ⟨rfl, hd⟩; have Q2 := Aside0.mk (Q1.out.below hd.below); clear hd)))
        refine start_ (n := 14) (S := fun w' => True) (ds := []) #[false, false, false, false, false, false, false, false, false, false, false, false, false, false] (by kernel_rfl) rfl rfl trivial (fun hHeld => ?_)
        refine pure_ (i := 0) (N := some 157) (v := ?_) (a' := ?_) #[true, false, false, false, false, false, false, false, false, false, false, false, false, false] rfl rfl (by kernel_rfl) (fun _ _ _ h => h) (Or.inl ⟨by rfl, ?_⟩) ?_ ?_
        rotate_left
        · intro w'
          go_simp
          with_reducible rfl
        rotate_left
        · simp only [Act.put, List.setIfInBounds_toArray, List.set_cons_zero, List.set_cons_succ, i64_w, i32_w]
          rfl
        refine pure_ (i := 1) (N := some 158) (v := ?_) (a' := ?_) #[true, true, false, false, false, false, false, false, false, false, false, false, false, false] rfl rfl (by kernel_rfl) (fun _ _ _ h => h) (Or.inl ⟨by rfl, ?_⟩) ?_ ?_
        rotate_left
        · intro w'
          go_simp
          with_reducible rfl
        rotate_left
        · simp only [Act.put, List.setIfInBounds_toArray, List.set_cons_zero, List.set_cons_succ, i64_w, i32_w]
          rfl
        refine pure_ (i := 2) (N := some 159) (v := ?_) (a' := ?_) #[true, true, true, false, false, false, false, false, false, false, false, false, false, false] rfl rfl (by kernel_rfl) (fun _ _ _ h => h) (Or.inl ⟨by rfl, ?_⟩) ?_ ?_
        rotate_left
        · intro w'
          go_simp
          with_reducible rfl
        rotate_left
        · simp only [Act.put, List.setIfInBounds_toArray, List.set_cons_zero, List.set_cons_succ, i64_w, i32_w]
          rfl
        refine pure_ (i := 3) (N := some 160) (v := ?_) (a' := ?_) #[true, true, true, true, false, false, false, false, false, false, false, false, false, false] rfl rfl (by kernel_rfl) (fun _ _ _ h => h) (Or.inl ⟨by rfl, ?_⟩) ?_ ?_
        rotate_left
        · intro w'
          go_simp
          with_reducible rfl
        rotate_left
        · simp only [Act.put, List.setIfInBounds_toArray, List.set_cons_zero, List.set_cons_succ, i64_w, i32_w]
          rfl
        refine pure_ (i := 4) (N := some 161) (v := ?_) (a' := ?_) #[true, true, true, true, true, false, false, false, false, false, false, false, false, false] rfl rfl (by kernel_rfl) (fun _ _ _ h => h) (Or.inl ⟨by rfl, ?_⟩) ?_ ?_
        rotate_left
        · intro w'
          go_simp
          with_reducible rfl
        rotate_left
        · simp only [Act.put, List.setIfInBounds_toArray, List.set_cons_zero, List.set_cons_succ, i64_w, i32_w]
          rfl
        refine pure_ (i := 5) (N := some 162) (v := ?_) (a' := ?_) #[true, true, true, true, true, true, false, false, false, false, false, false, false, false] rfl rfl (by kernel_rfl) (fun _ _ _ h => h) (Or.inl ⟨by rfl, ?_⟩) ?_ ?_
        rotate_left
        · intro w'
          go_simp
          with_reducible rfl
        rotate_left
        · simp only [Act.put, List.setIfInBounds_toArray, List.set_cons_zero, List.set_cons_succ, i64_w, i32_w]
          rfl
        refine pure_ (i := 6) (N := some 163) (v := ?_) (a' := ?_) #[true, true, true, true, true, true, true, false, false, false, false, false, false, false] rfl rfl (by kernel_rfl) (fun _ _ _ h => h) (Or.inl ⟨by rfl, ?_⟩) ?_ ?_
        rotate_left
        · intro w'
          go_simp
          with_reducible rfl
        rotate_left
        · simp only [Act.put, List.setIfInBounds_toArray, List.set_cons_zero, List.set_cons_succ, i64_w, i32_w]
          rfl
        refine pure_ (i := 7) (N := some 164) (v := ?_) (a' := ?_) #[true, true, true, true, true, true, true, true, false, false, false, false, false, false] rfl rfl (by kernel_rfl) (fun _ _ _ h => h) (Or.inl ⟨by rfl, ?_⟩) ?_ ?_
        rotate_left
        · intro w'
          go_simp
          with_reducible rfl
        rotate_left
        · simp only [Act.put, List.setIfInBounds_toArray, List.set_cons_zero, List.set_cons_succ, i64_w, i32_w]
          rfl
        refine pure_ (i := 8) (N := some 165) (v := ?_) (a' := ?_) #[true, true, true, true, true, true, true, true, true, false, false, false, false, false] rfl rfl (by kernel_rfl) (fun _ _ _ h => h) (Or.inl ⟨by rfl, ?_⟩) ?_ ?_
        rotate_left
        · intro w'
          go_simp
          with_reducible rfl
        rotate_left
        · simp only [Act.put, List.setIfInBounds_toArray, List.set_cons_zero, List.set_cons_succ, i64_w, i32_w]
          rfl
        refine pure_ (i := 9) (N := some 166) (v := ?_) (a' := ?_) #[true, true, true, true, true, true, true, true, true, true, false, false, false, false] rfl rfl (by kernel_rfl) (fun _ _ _ h => h) (Or.inl ⟨by rfl, ?_⟩) ?_ ?_
        rotate_left
        · intro w'
          go_simp
          with_reducible rfl
        rotate_left
        · simp only [Act.put, List.setIfInBounds_toArray, List.set_cons_zero, List.set_cons_succ, i64_w, i32_w]
          rfl
        refine pure_ (i := 10) (N := some 167) (v := ?_) (a' := ?_) #[true, true, true, true, true, true, true, true, true, true, true, false, false, false] rfl rfl (by kernel_rfl) (fun _ _ _ h => h) (Or.inl ⟨by rfl, ?_⟩) ?_ ?_
        rotate_left
        · intro w'
          go_simp
          with_reducible rfl
        rotate_left
        · simp only [Act.put, List.setIfInBounds_toArray, List.set_cons_zero, List.set_cons_succ, i64_w, i32_w]
          rfl
        refine one_ (i := 11) (N := some 168) #[true, true, true, true, true, true, true, true, true, true, true, true, false, false] rfl rfl (by kernel_rfl) (by decide) (fun K hK => ?_)
        refine step_app_str (w0 := w0) w0.heap.size (by rfl) (.tmp 162) (.tmp 167) 29 9 5 (by rfl) Tryd.underlying29 Tryd.underlying9 info5 (fun k => P0 k ∨ w.heap.size ≤ k) u0 (l ++ r) (t.extract 0 nj) (by rfl) (by rfl) (fun k hk => Q2.out.fresh k hk) (Q2.out.below (below_drew (Below.refl _ _))).R (Q2.out.below (below_drew (Below.refl _ _))).B Q2.out.B.size (by have := HLEN.out; have := HR.out.2; have := HNJ.out; have := HTS.out; have := HRL.out.2; (try simp only [List.length_append, ByteArray.size_extract]); omega) ?_
        intro v3 w3 hR hB hK; have Q3 := Aside0.mk ((Q2.out.below (below_drew (Below.refl _ _))).kept (Kd.G_mono hR (fun _ h => .inl h)) hB hK); clear hR hB hK
        refine hK.out _ _ trivial (fun hHeld => ?_)
        clear hK K
        refine norm_ (a' := ?_) ?_ ?_
        rotate_left
        · show Act.put _ (some 168) _ = _
          simp only [Act.put, List.setIfInBounds_toArray, List.set_cons_zero, List.set_cons_succ, i64_w, i32_w]
          rfl
        refine pure_ (i := 12) (N := some 1) (v := ?_) (a' := ?_) #[true, true, true, true, true, true, true, true, true, true, true, true, true, false] rfl rfl (by kernel_rfl) (fun _ _ _ h => h) (Or.inl ⟨by rfl, ?_⟩) ?_ ?_
        rotate_left
        · intro w'
          go_simp
          with_reducible rfl
        rotate_left
        · simp only [Act.put, List.setIfInBounds_toArray, List.set_cons_zero, List.set_cons_succ, i64_w, i32_w]
          rfl
        refine pure_ (i := 13) (N := some 0) (v := ?_) (a' := ?_) #[true, true, true, true, true, true, true, true, true, true, true, true, true, true] rfl rfl (by kernel_rfl) (fun _ _ _ h => h) (Or.inl ⟨by rfl, ?_⟩) ?_ ?_
        rotate_left
        · intro w'
          go_simp
          with_reducible rfl
        rotate_left
        · simp only [Act.put, List.setIfInBounds_toArray, List.set_cons_zero, List.set_cons_succ, i64_w, i32_w]
          rfl
        refine done_ (by kernel_rfl) ?_
        go_wp2_with fail
        go_roundg (gk - 1)
        case measure => have := HK.out; have := HHT.out; omega
        case rel => exact ⟨t.extract nj t.size, r ++ bytesOf (t.extract 0 nj), by first | rfl | (simp; done), ⟨by rw [ByteArray.size_extract]; have := HNJ.out; have := HK.out; have := HF.out.2.1; have := HF.out.2.2.1; omega⟩, ⟨by have h := Q3.out; simpa only [List.append_assoc] using h⟩, ⟨⟨HR.out.1.step HHT.out HPC.out (by rw [ByteArray.size_extract]; have := HNJ.out; have := HF.out.2.1; have := HF.out.2.2.1; omega), by rw [List.length_append, bytesOf_length, ByteArray.size_extract, ByteArray.size_extract]; have := HRL.out.2; have := HNJ.out; have := HF.out.2.1; have := HF.out.2.2.1; omega⟩⟩⟩
      have HPC := Aside0.mk (show pc t = (bytesOf (t.extract 0 (n + ixN (t.extract n t.size))), t.extract (n + ixN (t.extract n t.size)) t.size) from HPT.out.trans (by unfold pcs; rw [if_neg hbad, if_neg h1, if_neg h2, if_neg h3, if_neg h4, if_neg h5, if_neg h6, if_neg h8, if_neg h9]))
      have q0 : (rI == 65533) = false := beq_eq_false_iff_ne.mpr (by omega)
      have q1 : decide (rI < 32) = false := decide_eq_false (by omega)
      have q2 : (rI == 34) = false := beq_eq_false_iff_ne.mpr (by omega)
      have q3 : (rI == 92) = false := beq_eq_false_iff_ne.mpr (by omega)
      have q4 : (rI == 127) = false := beq_eq_false_iff_ne.mpr (by omega)
      have q5 : decide (128 ≤ rI) = false := decide_eq_false (by omega)
      obtain ⟨j1, j3⟩ := ix (t.extract n t.size) (by have := HTS.out; have := HLEN.out.2; have := HRL.out.2; omega)
      obtain ⟨j, hjj⟩ : ∃ j, j = ixN (t.extract n t.size) := ⟨_, rfl⟩
      rw [← hjj] at j1 j3 HPC
      have HIX2 := Aside0.mk j3
      clear hjj j3
      have hnj : j ≤ t.size - n := by have := HTS.out; omega
      have hts2 : t.size ≤ 1002 := by have := HRL.out.2; have := HLEN.out.2; omega
      obtain ⟨nj, hnj2⟩ : ∃ x : Nat, x = n + j := ⟨_, rfl⟩
      have k1 : wrap64 ((n : Int) + (j : Int)) = (nj : Int) := by have := HF.out.2.2.1; unfold wrap64; omega
      have k1b : IntKind.i64.wrap ((n : Int) + (j : Int)) = (nj : Int) := by have := HF.out.2.2.1; rw [IntKind.wrap_i64]; omega
      have k2 := eq_true (show (0 : Int) ≤ (nj : Int) by omega)
      have k3 := eq_true (show (nj : Int) ≤ (t.size : Int) by have := HF.out.2.2.1; omega)
      have k4 : ((nj : Int)).toNat = nj := by omega
      rw [← hnj2] at HPC
      have HNJ := Aside0.mk (And.intro hnj2 hnj)
      clear hnj hts2 hnj2 j1
      go_wp2_with (first | (go_at_call 91; go_must (refine (HDEC.out _ Q0.out.B).mono ?_; rintro e1 w1 ⟨rfl, hb⟩; have Q1 := Aside0.mk (Q0.out.below hb); clear hb)) | (go_at_call 90; go_must (refine (HIX2.out _).mono ?_; rintro e2 w2 ⟨rfl, hd⟩; have Q2 := Aside0.mk (Q1.out.below hd.below); clear hd)))
      refine start_ (n := 14) (S := fun w' => True) (ds := []) #[false, false, false, false, false, false, false, false, false, false, false, false, false, false] (by kernel_rfl) rfl rfl trivial (fun hHeld => ?_)
      refine pure_ (i := 0) (N := some 157) (v := ?_) (a' := ?_) #[true, false, false, false, false, false, false, false, false, false, false, false, false, false] rfl rfl (by kernel_rfl) (fun _ _ _ h => h) (Or.inl ⟨by rfl, ?_⟩) ?_ ?_
      rotate_left
      · intro w'
        go_simp
        with_reducible rfl
      rotate_left
      · simp only [Act.put, List.setIfInBounds_toArray, List.set_cons_zero, List.set_cons_succ, i64_w, i32_w]
        rfl
      refine pure_ (i := 1) (N := some 158) (v := ?_) (a' := ?_) #[true, true, false, false, false, false, false, false, false, false, false, false, false, false] rfl rfl (by kernel_rfl) (fun _ _ _ h => h) (Or.inl ⟨by rfl, ?_⟩) ?_ ?_
      rotate_left
      · intro w'
        go_simp
        with_reducible rfl
      rotate_left
      · simp only [Act.put, List.setIfInBounds_toArray, List.set_cons_zero, List.set_cons_succ, i64_w, i32_w]
        rfl
      refine pure_ (i := 2) (N := some 159) (v := ?_) (a' := ?_) #[true, true, true, false, false, false, false, false, false, false, false, false, false, false] rfl rfl (by kernel_rfl) (fun _ _ _ h => h) (Or.inl ⟨by rfl, ?_⟩) ?_ ?_
      rotate_left
      · intro w'
        go_simp
        with_reducible rfl
      rotate_left
      · simp only [Act.put, List.setIfInBounds_toArray, List.set_cons_zero, List.set_cons_succ, i64_w, i32_w]
        rfl
      refine pure_ (i := 3) (N := some 160) (v := ?_) (a' := ?_) #[true, true, true, true, false, false, false, false, false, false, false, false, false, false] rfl rfl (by kernel_rfl) (fun _ _ _ h => h) (Or.inl ⟨by rfl, ?_⟩) ?_ ?_
      rotate_left
      · intro w'
        go_simp
        with_reducible rfl
      rotate_left
      · simp only [Act.put, List.setIfInBounds_toArray, List.set_cons_zero, List.set_cons_succ, i64_w, i32_w]
        rfl
      refine pure_ (i := 4) (N := some 161) (v := ?_) (a' := ?_) #[true, true, true, true, true, false, false, false, false, false, false, false, false, false] rfl rfl (by kernel_rfl) (fun _ _ _ h => h) (Or.inl ⟨by rfl, ?_⟩) ?_ ?_
      rotate_left
      · intro w'
        go_simp
        with_reducible rfl
      rotate_left
      · simp only [Act.put, List.setIfInBounds_toArray, List.set_cons_zero, List.set_cons_succ, i64_w, i32_w]
        rfl
      refine pure_ (i := 5) (N := some 162) (v := ?_) (a' := ?_) #[true, true, true, true, true, true, false, false, false, false, false, false, false, false] rfl rfl (by kernel_rfl) (fun _ _ _ h => h) (Or.inl ⟨by rfl, ?_⟩) ?_ ?_
      rotate_left
      · intro w'
        go_simp
        with_reducible rfl
      rotate_left
      · simp only [Act.put, List.setIfInBounds_toArray, List.set_cons_zero, List.set_cons_succ, i64_w, i32_w]
        rfl
      refine pure_ (i := 6) (N := some 163) (v := ?_) (a' := ?_) #[true, true, true, true, true, true, true, false, false, false, false, false, false, false] rfl rfl (by kernel_rfl) (fun _ _ _ h => h) (Or.inl ⟨by rfl, ?_⟩) ?_ ?_
      rotate_left
      · intro w'
        go_simp
        with_reducible rfl
      rotate_left
      · simp only [Act.put, List.setIfInBounds_toArray, List.set_cons_zero, List.set_cons_succ, i64_w, i32_w]
        rfl
      refine pure_ (i := 7) (N := some 164) (v := ?_) (a' := ?_) #[true, true, true, true, true, true, true, true, false, false, false, false, false, false] rfl rfl (by kernel_rfl) (fun _ _ _ h => h) (Or.inl ⟨by rfl, ?_⟩) ?_ ?_
      rotate_left
      · intro w'
        go_simp
        with_reducible rfl
      rotate_left
      · simp only [Act.put, List.setIfInBounds_toArray, List.set_cons_zero, List.set_cons_succ, i64_w, i32_w]
        rfl
      refine pure_ (i := 8) (N := some 165) (v := ?_) (a' := ?_) #[true, true, true, true, true, true, true, true, true, false, false, false, false, false] rfl rfl (by kernel_rfl) (fun _ _ _ h => h) (Or.inl ⟨by rfl, ?_⟩) ?_ ?_
      rotate_left
      · intro w'
        go_simp
        with_reducible rfl
      rotate_left
      · simp only [Act.put, List.setIfInBounds_toArray, List.set_cons_zero, List.set_cons_succ, i64_w, i32_w]
        rfl
      refine pure_ (i := 9) (N := some 166) (v := ?_) (a' := ?_) #[true, true, true, true, true, true, true, true, true, true, false, false, false, false] rfl rfl (by kernel_rfl) (fun _ _ _ h => h) (Or.inl ⟨by rfl, ?_⟩) ?_ ?_
      rotate_left
      · intro w'
        go_simp
        with_reducible rfl
      rotate_left
      · simp only [Act.put, List.setIfInBounds_toArray, List.set_cons_zero, List.set_cons_succ, i64_w, i32_w]
        rfl
      refine pure_ (i := 10) (N := some 167) (v := ?_) (a' := ?_) #[true, true, true, true, true, true, true, true, true, true, true, false, false, false] rfl rfl (by kernel_rfl) (fun _ _ _ h => h) (Or.inl ⟨by rfl, ?_⟩) ?_ ?_
      rotate_left
      · intro w'
        go_simp
        with_reducible rfl
      rotate_left
      · simp only [Act.put, List.setIfInBounds_toArray, List.set_cons_zero, List.set_cons_succ, i64_w, i32_w]
        rfl
      refine one_ (i := 11) (N := some 168) #[true, true, true, true, true, true, true, true, true, true, true, true, false, false] rfl rfl (by kernel_rfl) (by decide) (fun K hK => ?_)
      refine step_app_str (w0 := w0) w0.heap.size (by rfl) (.tmp 162) (.tmp 167) 29 9 5 (by rfl) Tryd.underlying29 Tryd.underlying9 info5 (fun k => P0 k ∨ w.heap.size ≤ k) u0 (l ++ r) (t.extract 0 nj) (by rfl) (by rfl) (fun k hk => Q2.out.fresh k hk) (Q2.out.below (below_drew (Below.refl _ _))).R (Q2.out.below (below_drew (Below.refl _ _))).B Q2.out.B.size (by have := HLEN.out; have := HR.out.2; have := HNJ.out; have := HTS.out; have := HRL.out.2; (try simp only [List.length_append, ByteArray.size_extract]); omega) ?_
      intro v3 w3 hR hB hK; have Q3 := Aside0.mk ((Q2.out.below (below_drew (Below.refl _ _))).kept (Kd.G_mono hR (fun _ h => .inl h)) hB hK); clear hR hB hK
      refine hK.out _ _ trivial (fun hHeld => ?_)
      clear hK K
      refine norm_ (a' := ?_) ?_ ?_
      rotate_left
      · show Act.put _ (some 168) _ = _
        simp only [Act.put, List.setIfInBounds_toArray, List.set_cons_zero, List.set_cons_succ, i64_w, i32_w]
        rfl
      refine pure_ (i := 12) (N := some 1) (v := ?_) (a' := ?_) #[true, true, true, true, true, true, true, true, true, true, true, true, true, false] rfl rfl (by kernel_rfl) (fun _ _ _ h => h) (Or.inl ⟨by rfl, ?_⟩) ?_ ?_
      rotate_left
      · intro w'
        go_simp
        with_reducible rfl
      rotate_left
      · simp only [Act.put, List.setIfInBounds_toArray, List.set_cons_zero, List.set_cons_succ, i64_w, i32_w]
        rfl
      refine pure_ (i := 13) (N := some 0) (v := ?_) (a' := ?_) #[true, true, true, true, true, true, true, true, true, true, true, true, true, true] rfl rfl (by kernel_rfl) (fun _ _ _ h => h) (Or.inl ⟨by rfl, ?_⟩) ?_ ?_
      rotate_left
      · intro w'
        go_simp
        with_reducible rfl
      rotate_left
      · simp only [Act.put, List.setIfInBounds_toArray, List.set_cons_zero, List.set_cons_succ, i64_w, i32_w]
        rfl
      refine done_ (by kernel_rfl) ?_
      go_wp2_with fail
      go_roundg (gk - 1)
      case measure => have := HK.out; have := HHT.out; omega
      case rel => exact ⟨t.extract nj t.size, r ++ bytesOf (t.extract 0 nj), by first | rfl | (simp; done), ⟨by rw [ByteArray.size_extract]; have := HNJ.out; have := HK.out; have := HF.out.2.1; have := HF.out.2.2.1; omega⟩, ⟨by have h := Q3.out; simpa only [List.append_assoc] using h⟩, ⟨⟨HR.out.1.step HHT.out HPC.out (by rw [ByteArray.size_extract]; have := HNJ.out; have := HF.out.2.1; have := HF.out.2.2.1; omega), by rw [List.length_append, bytesOf_length, ByteArray.size_extract, ByteArray.size_extract]; have := HRL.out.2; have := HNJ.out; have := HF.out.2.1; have := HF.out.2.2.1; omega⟩⟩⟩
    · have c0 : decide ((0 : Int) < (t.size : Int)) = false := decide_eq_false (by omega)
      have c0b : decide (0 < t.size) = false := decide_eq_false ht
      have HR := HRR
      have HNT := Aside0.mk ht
      clear ht
      go_wp2_with (at_builtin; refine Kd.G_append (Kd.int .u8) (w0 := w0) w0.heap.size rfl (.tmp 169) (.tmp 170) 29 5 (.int .u8 0) 1 rfl Tryd.underlying29 info5 rfl (by decide) (by omega) u0 (l ++ r) 34 [.int .u8 34] (fun k => P0 k ∨ w.heap.size ≤ k) (fun _ => False) rfl rfl rfl (fun _ hk => hk.elim) (fun k hk => Q0.out.fresh k hk) Q0.out.R Q0.out.B Q0.out.B.size (by have := HLEN.out; have := HR.out.2; rw [Nat.mul_one]; (try simp only [List.length_append, List.length_cons, List.length_nil]); omega) ?_; intro v1 w1 hR hB hG hat; have Q1 := Aside0.mk (Q0.out.grown hR hB hG); clear hR hB hG hat)
      go_ret
      have hr := HRR.out.1.done HNT.out
      have hsb : strB s = r ++ [34] := by rw [hr]; rfl
      rw [hsb]
      exact ⟨by have := HRR.out.2; have := HLEN.out.2; simp only [List.length_append, List.length_cons, List.length_nil]; omega, v1, rfl, by have h := Q1.out.R; rwa [List.append_assoc] at h, Q1.out.B, Q1.out.K⟩

end Go.Proofs.YtdggjpdhbailpaaDoor.Es1
