/- The law FnDefText returns true, kind by kind. Conditions: I, U and F lie within their types; the table uint64pow10 reads as laid. -/
import Derived.Test.YticfdfomlcohpaaGreatDoorDtb
namespace Go.Proofs.YticfdfomlcohpaaGreatDoor.Dtc
open Go.RowKit Go.Proofs.YticfdfomlcohpaaGreatDoorW.PrintWords Go.Proofs.YticfdfomlcohpaaGreatDoorW.PrintLast Go.Proofs.YticfdfomlcohpaaGreatDoorW.PrintMore
open Go.Proofs.YticfdfomlcohpaaGreatDoor.Dt9 Go.Proofs.YticfdfomlcohpaaGreatDoor.Db Go.Proofs.YticfdfomlcohpaaGreatDoor.Dt Go.Proofs.YticfdfomlcohpaaGreatDoor.Dt4 Go.Proofs.YticfdfomlcohpaaGreatDoor.Dt5 Go.Proofs.YticfdfomlcohpaaGreatDoor.Dt6 Go.Proofs.YticfdfomlcohpaaGreatDoor.Dt8 Go.Proofs.YticfdfomlcohpaaGreatDoor.Dta Go.Proofs.YticfdfomlcohpaaGreatDoor.Dtb

set_option maxHeartbeats 2000000 in
theorem fit_other (K : Int) (h1 : K ≠ 1) (h2 : K ≠ 2) (h3 : K ≠ 3) (h4 : K ≠ 4) (h5 : K ≠ 5) (h6 : K ≠ 6) (h7 : K ≠ 7) (h8 : K ≠ 8) (h9 : K ≠ 9) (h12 : K ≠ 12) (h13 : K ≠ 13) (h15 : K ≠ 15) (h16 : K ≠ 16) (h17 : K ≠ 17) (h18 : K ≠ 18)
    (B : Bool) (I U F : Int) (S N : ByteArray) (w : World) :
    Calls Tryz.prog 6 #[V K B I U F S N] w fun e w' =>
      e = .returned (.tuple #[V K false 0 0 0 es es, .bool false]) ∧ Below w.heap.size w w' := by
  go_enter Tryz.func6, Tryz.ntmps6
  go_wp2
  all_goals exact bodyPost_ret (v := .tuple #[V K false 0 0 0 es es, .bool false]) (by simp [results, Tryz.results6, go_sem]) rfl ⟨rfl, below_alloc (below_alloc (below_alloc (Below.refl _ _) _) _) _⟩

set_option maxHeartbeats 1000000 in
/-- DefMarshal, where the value given may be one of many. -/
theorem defmarshal_of2 (K : Int) (B : Bool) (I U F : Int) (S : ByteArray) (f : Int) (P : Value → Prop) (r : ByteArray) (w : World) (ht : Tab w)
    (hg : ∀ W, Calls Tryz.prog 24 #[V K B I U F S es] W fun e w' => (∃ vv, P vv ∧ e = .returned vv) ∧ Below W.heap.size W w')
    (hm : ∀ vv W ev, P vv → Tab W → Calls Tryz.prog 23 #[vv, ev, .int .i8 (IntKind.i8.wrap K), .int .i64 f] W fun e w' => e = .returned (.tuple #[.string r, .nilIface]) ∧ Below W.heap.size W w') :
    Calls Tryz.prog 9 #[V K B I U F S es, .int .i64 f, .slice none 0 0, .slice none 0 0] w fun e w' =>
      e = .returned (.tuple #[.string r, .bool true]) ∧ Below w.heap.size w w' := by
  have HG := Aside0.mk hg
  have HM := Aside0.mk hm
  have HT := Aside0.mk ht
  clear hg hm ht
  go_enter Tryz.func9, Tryz.ntmps9
  go_wp2_with fail
  go_quiet ((first | (go_at_call 21; exact Calls.quiet_of_same (enum_nil _)) | (go_at_call 22; exact Calls.quiet_of_same (byn_nil _ _))))
  go_wp2_with fail
  go_region_with (first
    | (go_at_call 24; go_must (refine (HG.out _).mono ?_; rintro e w1 ⟨⟨vv, hv, rfl⟩, hb⟩; have HV := Aside0.mk hv; clear hv; obtain ⟨hc1, _⟩ := bcell hb; have hbW := (pw_below_drewN (below_alloc (Below.refl _ _) _) _).trans (hb.mono (by simp))))
    | (go_at_call 23; go_must (refine (HM.out _ _ _ HV.out (HT.out.on hbW)).mono ?_; rintro e w2 ⟨rfl, hb2⟩)))
  all_goals go_wp2
  all_goals go_ret2
  all_goals exact ⟨rfl, hbW.trans (hb2.mono hbW.size)⟩

theorem ww (I : Int) : wrap32 (wrap32 I) = wrap32 I := by unfold wrap32; omega
theorem w32b (I : Int) : -9223372036854775808 ≤ wrap32 I ∧ wrap32 I ≤ 9223372036854775807 := by unfold wrap32; omega

theorem law (K : Int) (B : Bool) (I U F : Int) (S N : ByteArray) (tag : Bool) (w : World) (ht : Tab w) (i0 : -9223372036854775808 ≤ I) (i1 : I ≤ 9223372036854775807) (u0 : 0 ≤ U) (u1 : U < 18446744073709551616) (f0 : 0 ≤ F) (f1 : F < 18446744073709551616) :
    Calls Tryz.prog 3 #[V K B I U F S N, .bool tag] w fun e w' => e = .returned (.bool true) ∧ Below w.heap.size w w' := by
  by_cases h8 : K = 8
  · refine law_of K B I U F S N tag w ht B 0 0 es _ (· = 0) (fun _ r => r = word B tag)
      (fun W => (fit_bool K h8 B I U F S N W).mono fun e w' ⟨he, hb⟩ => ⟨⟨0, rfl, he⟩, hb⟩) ?_ ?_
    · rintro - f W rfl
      exact (txt_bool K h8 tag B 0 0 0 es W).mono fun e w' ⟨he, hb⟩ => ⟨.inl ⟨_, rfl, he⟩, hb⟩
    · rintro - f r W rfl rfl hT
      exact defmarshal_of K B 0 0 0 es _ _ _ W hT (given_bool K h8 B) (fun W ev _ => mar_bool _ (by subst h8; decide) B tag ev W)
  by_cases hi32 : K = 5 ∨ K = 17 ∨ K = 15
  · refine law_of K B I U F S N tag w ht false (wrap32 I) 0 es _ (· = 0) (fun _ r => r = i64str (wrap32 I))
      (fun W => (fit_i32 K hi32 B I U F S N W).mono fun e w' ⟨he, hb⟩ => ⟨⟨0, rfl, he⟩, hb⟩) ?_ ?_
    · rintro - f W rfl
      exact (txt_int K (by omega) _ false _ 0 0 es (w32b I).1 (w32b I).2 W).mono fun e w' ⟨he, hb⟩ => ⟨.inl ⟨_, rfl, he⟩, hb⟩
    · rintro - f r W rfl rfl hT
      exact defmarshal_of K false _ 0 0 es _ _ _ W hT (by have := given_i32 K hi32 (wrap32 I); rw [ww] at this; exact this) (fun W ev hT => mar_int _ (by rcases hi32 with rfl | rfl | rfl <;> decide) 2 (.inl rfl) _ (w32b I).1 (w32b I).2 ev _ W hT)
  by_cases hi64 : K = 3 ∨ K = 18 ∨ K = 16
  · refine law_of K B I U F S N tag w ht false I 0 es _ (· = 0) (fun _ r => r = i64str I)
      (fun W => (fit_i64 K hi64 B I U F S N W).mono fun e w' ⟨he, hb⟩ => ⟨⟨0, rfl, he⟩, hb⟩) ?_ ?_
    · rintro - f W rfl
      exact (txt_int K (by omega) _ false _ 0 0 es i0 i1 W).mono fun e w' ⟨he, hb⟩ => ⟨.inl ⟨_, rfl, he⟩, hb⟩
    · rintro - f r W rfl rfl hT
      exact defmarshal_of K false _ 0 0 es _ _ _ W hT (given_i64 K hi64 I) (fun W ev hT => mar_int _ (by rcases hi64 with rfl | rfl | rfl <;> decide) 3 (.inr rfl) _ i0 i1 ev _ W hT)
  by_cases hu32 : K = 13 ∨ K = 7
  · refine law_of K B I U F S N tag w ht false 0 (U % 4294967296) es _ (· = 0) (fun _ r => r = u64str (U % 4294967296))
      (fun W => (fit_u32 K hu32 B I U F S N W).mono fun e w' ⟨he, hb⟩ => ⟨⟨0, rfl, he⟩, hb⟩) ?_ ?_
    · rintro - f W rfl
      exact (txt_uint K (by omega) _ false 0 _ 0 es (by omega) (by omega) W).mono fun e w' ⟨he, hb⟩ => ⟨.inl ⟨_, rfl, he⟩, hb⟩
    · rintro - f r W rfl rfl hT
      exact defmarshal_of K false 0 _ 0 es _ _ _ W hT (by have := given_u32 K hu32 (U % 4294967296); rw [Int.emod_emod_of_dvd _ (by decide : (4294967296 : Int) ∣ 4294967296)] at this; exact this) (fun W ev hT => mar_uint _ (by rcases hu32 with rfl | rfl <;> decide) 4 (.inl rfl) _ (by omega) (by omega) ev _ W hT)
  by_cases hu64 : K = 4 ∨ K = 6
  · refine law_of K B I U F S N tag w ht false 0 U es _ (· = 0) (fun _ r => r = u64str U)
      (fun W => (fit_u64 K hu64 B I U F S N W).mono fun e w' ⟨he, hb⟩ => ⟨⟨0, rfl, he⟩, hb⟩) ?_ ?_
    · rintro - f W rfl
      exact (txt_uint K (by omega) _ false 0 _ 0 es u0 u1 W).mono fun e w' ⟨he, hb⟩ => ⟨.inl ⟨_, rfl, he⟩, hb⟩
    · rintro - f r W rfl rfl hT
      exact defmarshal_of K false 0 _ 0 es _ _ _ W hT (given_u64 K hu64 U) (fun W ev hT => mar_uint _ (by rcases hu64 with rfl | rfl <;> decide) 5 (.inr rfl) _ u0 u1 ev _ W hT)
  by_cases h1 : K = 1
  · obtain ⟨n, rfl⟩ := Int.eq_ofNat_of_zero_le f0
    refine law_of K B I U n S N tag w ht false 0 0 es _ (· = n) (fun _ r => Word n r)
      (fun W => (fit_f64 K h1 B I U n S N W).mono fun e w' ⟨he, hb⟩ => ⟨⟨n, rfl, he⟩, hb⟩) ?_ ?_
    · rintro - f W rfl
      exact (txt_fl K (.inl h1) _ false 0 0 n es (by omega) W).mono fun e w' ⟨he, hb⟩ => ⟨he, hb⟩
    · rintro - f r W rfl hR hT
      subst h1
      exact defmarshal_of 1 false 0 0 n es _ _ _ W hT (given_f64 n (by omega)) (fun W ev _ => mar_fl 1 7 (.inl ⟨rfl, rfl⟩) n r hR ev _ W)
  by_cases h2 : K = 2
  · subst h2
    refine law_of 2 B I U F S N tag w ht false 0 0 es _ (fun f => ∃ n : Nat, n < 18446744073709551616 ∧ f = n) (fun f r => Word f.toNat r)
      (fun W => (fit_f32 B I U F S N W).mono fun e w' ⟨n, hn, he, hb⟩ => ⟨⟨n, ⟨n, hn, rfl⟩, he⟩, hb⟩) ?_ ?_
    · rintro - f W ⟨n, hn, rfl⟩
      exact (txt_fl 2 (.inr rfl) _ false 0 0 n es hn W).mono fun e w' ⟨he, hb⟩ => ⟨he, hb⟩
    · rintro - f r W ⟨n, hn, rfl⟩ hR hT
      exact defmarshal_of2 2 false 0 0 n es _ (fun vv => ∃ c : Nat, Same n c ∧ vv = VV 6 c es) _ W hT
        (fun W => (given_f32 n (by omega) W).mono fun e w' ⟨c, hs, he, hb⟩ => ⟨⟨_, ⟨c, hs, rfl⟩, he⟩, hb⟩)
        (fun vv W ev hv _ => by
          obtain ⟨c, hs, rfl⟩ := hv
          exact mar_fl 2 6 (.inr ⟨rfl, rfl⟩) c r (Word.same hR hs) ev _ W)
  by_cases h9 : K = 9
  · refine law_of K B I U F S N tag w ht false 0 0 S _ (· = 0) (fun _ r => r = S)
      (fun W => (fit_str K (.inl h9) B I U F S N W).mono fun e w' ⟨he, hb⟩ => ⟨⟨0, rfl, he⟩, hb⟩) ?_ ?_
    · rintro - f W rfl
      exact (txt_str K h9 _ false 0 0 0 S W).mono fun e w' ⟨he, hb⟩ => ⟨.inl ⟨_, rfl, he⟩, hb⟩
    · rintro - f r W rfl rfl hT
      exact defmarshal_of K false 0 0 0 r _ _ _ W hT (given_str K h9 r) (fun W ev _ => mar_str _ (by subst h9; decide) r ev _ W)
  by_cases h12 : K = 12
  · refine law_of K B I U F S N tag w ht false 0 0 S _ (· = 0) (fun _ r => r = strOfNums (Dbp.escL (bytesOf S)))
      (fun W => (fit_str K (.inr h12) B I U F S N W).mono fun e w' ⟨he, hb⟩ => ⟨⟨0, rfl, he⟩, hb⟩) ?_ ?_
    · rintro hS f W rfl
      have hS2 : S.size ≤ 2000 := by have := of_decide_eq_true hS; omega
      exact (txt_bytes K h12 _ false 0 0 0 S _ _ hS2 (Dbp.cesc_f (bytesOf S) (by rw [bytesOf_length]; exact hS2)) W).mono fun e w' ⟨he, hb⟩ => ⟨.inl ⟨_, rfl, he⟩, hb⟩
    · rintro hS f r W rfl rfl hT
      have hS2 : S.size ≤ 2000 := by have := of_decide_eq_true hS; omega
      subst h12
      exact defmarshal12 S (by omega) _ _ _ W (Dbp.marsh_f (bytesOf S) (by rw [bytesOf_length]; exact hS2))
  · exact law_of K B I U F S N tag w ht false 0 0 es false (· = 0) (fun _ _ => True)
      (fun W => (fit_other K h1 h2 (by omega) (by omega) (by omega) (by omega) (by omega) h8 h9 h12 (by omega) (by omega) (by omega) (by omega) (by omega) B I U F S N W).mono fun e w' ⟨he, hb⟩ => ⟨⟨0, rfl, he⟩, hb⟩)
      (fun h => by cases h) (fun h => by cases h)

end Go.Proofs.YticfdfomlcohpaaGreatDoor.Dtc
