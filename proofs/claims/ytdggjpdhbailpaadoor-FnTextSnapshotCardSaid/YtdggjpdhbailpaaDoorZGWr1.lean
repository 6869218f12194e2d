/- The writing methods of the encoder: each writes prepareNext's bytes and what its appender appends. Conditions: the encoder is the call's own; what the appender does is a premise where it is a function of its own. -/
import Derived.Test.YtdggjpdhbailpaaDoorZGPn2
import Derived.Outline
import Derived.Deep.DeepMust
namespace Go.Proofs.YtdggjpdhbailpaaDoor.Wr
set_option linter.unusedSimpArgs false
set_option linter.unusedVariables false
open Go.RowKit Go.Proofs.YtdggjpdhbailpaaDoorW.PrintWords Go.Proofs.YtdggjpdhbailpaaDoorW.PrintLast Go.Proofs.YtdggjpdhbailpaaDoorW.PrintMore Go.Proofs.YtdggjpdhbailpaaDoor.As1 Go.Proofs.YtdggjpdhbailpaaDoor.En0 Go.Proofs.YtdggjpdhbailpaaDoor.Bl Go.Proofs.YtdggjpdhbailpaaDoor.Pn Go.Proofs.YtdggjpdhbailpaaDoor.Pn2 Go.Proofs.YtdggjpdhbailpaaDoor.PFnTextAscii

theorem reg_cut3 {P : Program} {c : Code} {Q : Exit → Act → World → Prop} {a : Act} {w : World} (act : Option Addr → Nat → Nat → Act) (R : World → Prop)
    (h : c.wp P (fun x a' w' => match x with | .normal => ∃ A n m, a' = act A n m ∧ Aside0 (R w') | _ => False) a w) (k : ∀ A n m w', Aside0 (R w') → Q .normal (act A n m) w') : c.wp P Q a w :=
  Code.wp_mono (fun x a' w' hx => by
    cases x <;> first | exact hx.elim | (obtain ⟨A, n, m, rfl, hR⟩ := hx; exact k A n m w' hR)) h
set_option linter.unusedSectionVars false
variable [γ_ : Gho] [η_ : Hel]
/-- What an appender does: bytes of which rs is known are appended. -/
def AppR (w0 w : World) (P0 : Nat → Prop) (l : List Int) (rs : List Int → Prop) (e : Ending) (w' : World) : Prop :=
  ∃ (r : List Int) (v' : Value), rs r ∧ e = .returned v' ∧ Kd.G (Kd.int .u8) 5 w' w0.heap.size (fun k => P0 k ∨ w.heap.size ≤ k) v' (l ++ r) ∧ Below w0.heap.size w0 w' ∧ Kept w w' P0
/-- What a method does. -/
def WrP (w0 : World) (b : Nat) (I : ByteArray) (d0 d1 : Int) (asc : Bool) (nx : Int) (ind out : List Int) (rs : List Int → Prop) (e : Ending) (w' : World) : Prop :=
  e = .returned (.tuple #[]) ∧ (∃ r vI vO, rs r ∧ At w' w0.heap.size b I d0 d1 asc nx vI vO ind (out ++ r)) ∧ Below w0.heap.size w0 w'

section
variable {w w1 : World} {base b : Nat} {I : ByteArray} {d0 d1 : Int} {asc : Bool} {last : Int} {vI vO : Value} {ind out : List Int}
theorem at_bnd (h : At w base b I d0 d1 asc last vI vO ind out) : Kd.G (Kd.int .u8) 5 w base (fun k => (k ≠ b ∧ some k ≠ Hel.b) ∧ k < w.heap.size) vO out :=
  ⟨fun k hk => ⟨h.hO.own k hk, Kd.G_lt h.hO k hk⟩, Kd.R_mono (Kd.R_bound h.hO.row) (fun _ hk => ⟨hk.1, hk.2.2.1⟩), Kd.R_mono (Kd.R_bound h.hO.elder) (fun _ hk => ⟨hk.1, hk.2.2.1⟩), h.hO.len⟩
theorem at_app {v1 : Value} {out1 : List Int} (h : At w base b I d0 d1 asc last vI vO ind out) (hr : Kd.G (Kd.int .u8) 5 w1 base (fun k => ((k ≠ b ∧ some k ≠ Hel.b) ∧ k < w.heap.size) ∨ w.heap.size ≤ k) v1 out1) (hk : Kept w w1 (fun k => (k ≠ b ∧ some k ≠ Hel.b) ∧ k < w.heap.size)) : Out w1 base b I d0 d1 asc last vI vO v1 ind out1 :=
  h.toOut (Kd.G_mono hr (fun k hk => hk.elim (fun h => h.1) (fun hk => freshO h k hk))) (hk.mono (fun _ h => h.1))
end
/-- The premises of a method. -/
structure Pre (w0 w : World) (b : Nat) (I : ByteArray) (d0 d1 : Int) (asc : Bool) (last nx : Int) (ind out : List Int) : Prop where
  e : ∃ vI vO, At w w0.heap.size b I d0 d1 asc last vI vO ind out
  la : last = 0 ∨ last = 1 ∨ last = 2 ∨ last = 4 ∨ last = 8
  ok : okAt (bytesOf I) last nx ind
  below : Below w0.heap.size w0 w
  hz : I.size = 0
  len : out.length + 8 * ind.length + 8 * I.size + 100000 ≤ 140737488355328
/-- prepareNext, in the words of a method. -/
theorem pre_next {w0 w : World} {b : Nat} {I : ByteArray} {d0 d1 : Int} {asc : Bool} {last nx : Int} {ind out : List Int} (h : Pre w0 w b I d0 d1 asc last nx ind out) (hnx : nx = 1 ∨ nx = 2 ∨ nx = 4 ∨ nx = 8) :
    ∃ outp indp, outp = out ++ preOf (bytesOf I) last nx ind ∧ indp = indOf (bytesOf I) last nx ind ∧ outp.length + 90000 ≤ 140737488355328 ∧ Calls Tryd.prog 77 #[.pointer (some ⟨b, 0, none⟩), .int .u8 nx] w (fun e w' => e = .returned (.tuple #[]) ∧ (∃ vI vO, At w' w0.heap.size b I d0 d1 asc nx vI vO indp outp) ∧ Below w0.heap.size w0 w') := by
  obtain ⟨vI, vO, hA⟩ := h.e
  refine ⟨_, _, rfl, rfl, ?_, pn b last nx vI vO I d0 d1 asc ind out w0 w h.la hnx h.ok h.hz h.below hA (by have := h.len; omega)⟩
  have h1 := preOf_le (I := bytesOf I) (last := last) (nx := nx) (ind := ind)
  have h2 := h.len
  rw [bytesOf_length] at h1
  rw [List.length_append]
  omega

theorem wFloat (b : Nat) (last : Int) (I : ByteArray) (d0 d1 : Int) (asc : Bool) (ind out : List Int) (w0 w : World) (h : Pre w0 w b I d0 d1 asc last 2 ind out) (rs : List Int → Prop) (n : Nat) (sz : Int)
    (hf : ∀ (w1 : World) (v : Value) (l : List Int) (P0 : Nat → Prop), Below w0.heap.size w0 w1 → Kd.G (Kd.int .u8) 5 w1 w0.heap.size P0 v l → (∀ k, P0 k → k < w1.heap.size) → l.length + 90000 ≤ 140737488355328 → Calls Tryd.prog 79 #[v, .float .f64 n, .int .i64 sz] w1 (AppR w0 w1 P0 l rs)) :
    Calls Tryd.prog 59 #[.pointer (some ⟨b, 0, none⟩), .float .f64 n, .int .i64 sz] w (WrP w0 b I d0 d1 asc 2 (indOf (bytesOf I) last 2 ind) (out ++ preOf (bytesOf I) last 2 ind) rs) := by
  obtain ⟨outp, indp, ho, hi, hlen, hp⟩ := pre_next h (by decide)
  rw [← ho, ← hi]
  have HP := Aside0.mk hp
  have HLEN := Aside0.mk hlen
  have HPRE := Aside0.mk h
  clear hp hlen h ho hi
  have HF := Aside0.mk hf
  clear hf
  go_enter Tryd.func59, Tryd.ntmps59
  go_wp2_with (first | (go_at_call 77; go_must (refine HP.out.mono ?_; rintro e1 w1 ⟨rfl, ⟨vI1, vO1, h1⟩, hB1⟩; have H1 := Aside0.mk h1; have HB1 := Aside0.mk hB1; have c2 := h1.c2; have c6 := h1.c6; have c4 := h1.c4; have c5 := h1.c5; clear h1 hB1)) | (go_at_call 79; go_must (refine (HF.out w1 vO1 outp _ HB1.out (at_bnd H1.out) (fun k hk => hk.2) HLEN.out).mono ?_; rintro e2 w2 ⟨r, v', hr, rfl, hR, hB2, hK2⟩; obtain ⟨A3, m3, hv⟩ := Kd.G_slice hR; generalize List.length _ = n3 at hv; subst hv; have HO := Aside0.mk (at_app H1.out hR hK2); have HB2 := Aside0.mk hB2; have d2 := HO.out.c2; have dz := HO.out.fz 2; have HR := Aside0.mk hr; clear hR hK2 hB2 hr)))
  go_end0
  exact ⟨rfl, ⟨r, _, _, HR.out, HO.out.set⟩, HB2.out.setCell H1.out.le _⟩

theorem wInt (b : Nat) (last : Int) (I : ByteArray) (d0 d1 : Int) (asc : Bool) (ind out : List Int) (w0 w : World) (h : Pre w0 w b I d0 d1 asc last 2 ind out) (rs : List Int → Prop) (n : Int)
    (hf : ∀ (w1 : World) (v : Value) (l : List Int) (P0 : Nat → Prop), Below w0.heap.size w0 w1 → Kd.G (Kd.int .u8) 5 w1 w0.heap.size P0 v l → (∀ k, P0 k → k < w1.heap.size) → l.length + 90000 ≤ 140737488355328 → Calls Tryd.prog 80 #[v, .int .i64 n, .int .i64 10] w1 (AppR w0 w1 P0 l rs)) :
    Calls Tryd.prog 60 #[.pointer (some ⟨b, 0, none⟩), .int .i64 n] w (WrP w0 b I d0 d1 asc 2 (indOf (bytesOf I) last 2 ind) (out ++ preOf (bytesOf I) last 2 ind) rs) := by
  obtain ⟨outp, indp, ho, hi, hlen, hp⟩ := pre_next h (by decide)
  rw [← ho, ← hi]
  have HP := Aside0.mk hp
  have HLEN := Aside0.mk hlen
  have HPRE := Aside0.mk h
  clear hp hlen h ho hi
  have HF := Aside0.mk hf
  clear hf
  go_enter Tryd.func60, Tryd.ntmps60
  go_wp2_with (first | (go_at_call 77; go_must (refine HP.out.mono ?_; rintro e1 w1 ⟨rfl, ⟨vI1, vO1, h1⟩, hB1⟩; have H1 := Aside0.mk h1; have HB1 := Aside0.mk hB1; have c2 := h1.c2; have c6 := h1.c6; have c4 := h1.c4; have c5 := h1.c5; clear h1 hB1)) | (go_at_call 80; go_must (refine (HF.out w1 vO1 outp _ HB1.out (at_bnd H1.out) (fun k hk => hk.2) HLEN.out).mono ?_; rintro e2 w2 ⟨r, v', hr, rfl, hR, hB2, hK2⟩; obtain ⟨A3, m3, hv⟩ := Kd.G_slice hR; generalize List.length _ = n3 at hv; subst hv; have HO := Aside0.mk (at_app H1.out hR hK2); have HB2 := Aside0.mk hB2; have d2 := HO.out.c2; have dz := HO.out.fz 2; have HR := Aside0.mk hr; clear hR hK2 hB2 hr)))
  go_end0
  exact ⟨rfl, ⟨r, _, _, HR.out, HO.out.set⟩, HB2.out.setCell H1.out.le _⟩

theorem wUint (b : Nat) (last : Int) (I : ByteArray) (d0 d1 : Int) (asc : Bool) (ind out : List Int) (w0 w : World) (h : Pre w0 w b I d0 d1 asc last 2 ind out) (rs : List Int → Prop) (n : Int)
    (hf : ∀ (w1 : World) (v : Value) (l : List Int) (P0 : Nat → Prop), Below w0.heap.size w0 w1 → Kd.G (Kd.int .u8) 5 w1 w0.heap.size P0 v l → (∀ k, P0 k → k < w1.heap.size) → l.length + 90000 ≤ 140737488355328 → Calls Tryd.prog 81 #[v, .int .u64 n, .int .i64 10] w1 (AppR w0 w1 P0 l rs)) :
    Calls Tryd.prog 61 #[.pointer (some ⟨b, 0, none⟩), .int .u64 n] w (WrP w0 b I d0 d1 asc 2 (indOf (bytesOf I) last 2 ind) (out ++ preOf (bytesOf I) last 2 ind) rs) := by
  obtain ⟨outp, indp, ho, hi, hlen, hp⟩ := pre_next h (by decide)
  rw [← ho, ← hi]
  have HP := Aside0.mk hp
  have HLEN := Aside0.mk hlen
  have HPRE := Aside0.mk h
  clear hp hlen h ho hi
  have HF := Aside0.mk hf
  clear hf
  go_enter Tryd.func61, Tryd.ntmps61
  go_wp2_with (first | (go_at_call 77; go_must (refine HP.out.mono ?_; rintro e1 w1 ⟨rfl, ⟨vI1, vO1, h1⟩, hB1⟩; have H1 := Aside0.mk h1; have HB1 := Aside0.mk hB1; have c2 := h1.c2; have c6 := h1.c6; have c4 := h1.c4; have c5 := h1.c5; clear h1 hB1)) | (go_at_call 81; go_must (refine (HF.out w1 vO1 outp _ HB1.out (at_bnd H1.out) (fun k hk => hk.2) HLEN.out).mono ?_; rintro e2 w2 ⟨r, v', hr, rfl, hR, hB2, hK2⟩; obtain ⟨A3, m3, hv⟩ := Kd.G_slice hR; generalize List.length _ = n3 at hv; subst hv; have HO := Aside0.mk (at_app H1.out hR hK2); have HB2 := Aside0.mk hB2; have d2 := HO.out.c2; have dz := HO.out.fz 2; have HR := Aside0.mk hr; clear hR hK2 hB2 hr)))
  go_end0
  exact ⟨rfl, ⟨r, _, _, HR.out, HO.out.set⟩, HB2.out.setCell H1.out.le _⟩

theorem wLit (b : Nat) (last : Int) (I : ByteArray) (d0 d1 : Int) (asc : Bool) (ind out : List Int) (w0 w : World) (h : Pre w0 w b I d0 d1 asc last 2 ind out) (s : ByteArray) (hs : s.size ≤ 80000) :
    Calls Tryd.prog 62 #[.pointer (some ⟨b, 0, none⟩), .string s] w (WrP w0 b I d0 d1 asc 2 (indOf (bytesOf I) last 2 ind) (out ++ preOf (bytesOf I) last 2 ind) (fun r => r = bytesOf s)) := by
  obtain ⟨outp, indp, ho, hi, hlen, hp⟩ := pre_next h (by decide)
  rw [← ho, ← hi]
  have HP := Aside0.mk hp
  have HLEN := Aside0.mk hlen
  have HPRE := Aside0.mk h
  clear hp hlen h ho hi
  go_enter Tryd.func62, Tryd.ntmps62
  go_wp2_with (first | (go_at_call 77; go_must (refine HP.out.mono ?_; rintro e1 w1 ⟨rfl, ⟨vI1, vO1, h1⟩, hB1⟩; have H1 := Aside0.mk h1; have HB1 := Aside0.mk hB1; have c2 := h1.c2; have c6 := h1.c6; have c4 := h1.c4; have c5 := h1.c5; clear h1 hB1)) | (at_builtin; refine wpList_app_str (w0 := w0) w0.heap.size rfl (.tmp 11) (.tmp 12) 29 9 5 rfl Tryd.underlying29 Tryd.underlying9 info5 _ vO1 outp s rfl rfl H1.out.hO HB1.out HB1.out.size (by have := HLEN.out; omega) ?_; intro v1 w2 hR hB2 hK2; obtain ⟨A3, m3, hv⟩ := Kd.G_slice hR; generalize List.length _ = n3 at hv; subst hv; have HO := Aside0.mk (H1.out.toOut (Kd.G_mono hR (fun k hk => hk.elim id (fun hk => freshO H1.out k hk))) hK2); have HB2 := Aside0.mk hB2; have d2 := HO.out.c2; have dz := HO.out.fz 2; clear hR hK2 hB2))
  go_end0
  exact ⟨rfl, ⟨_, _, _, rfl, HO.out.set⟩, HB2.out.setCell H1.out.le _⟩

theorem wBool (b : Nat) (last : Int) (I : ByteArray) (d0 d1 : Int) (asc : Bool) (ind out : List Int) (w0 w : World) (h : Pre w0 w b I d0 d1 asc last 2 ind out) (v : Bool) :
    Calls Tryd.prog 57 #[.pointer (some ⟨b, 0, none⟩), .bool v] w (WrP w0 b I d0 d1 asc 2 (indOf (bytesOf I) last 2 ind) (out ++ preOf (bytesOf I) last 2 ind) (fun r => r = bytesOf (if v then ⟨#[116, 114, 117, 101]⟩ else ⟨#[102, 97, 108, 115, 101]⟩))) := by
  have HL := Aside0.mk (wLit b last I d0 d1 asc ind out w0 w h)
  clear h
  cases v
  · go_enter Tryd.func57, Tryd.ntmps57
    go_wp2_with (go_at_call 62; go_must (refine (HL.out ⟨#[102, 97, 108, 115, 101]⟩ (by decide)).mono ?_; rintro e1 w1 ⟨rfl, h1, hB1⟩))
    go_end0
    exact ⟨rfl, h1, hB1⟩
  · go_enter Tryd.func57, Tryd.ntmps57
    go_wp2_with (go_at_call 62; go_must (refine (HL.out ⟨#[116, 114, 117, 101]⟩ (by decide)).mono ?_; rintro e1 w1 ⟨rfl, h1, hB1⟩))
    go_end0
    exact ⟨rfl, h1, hB1⟩

set_option maxRecDepth 100000 in
theorem wName (b : Nat) (last : Int) (I : ByteArray) (d0 d1 : Int) (asc : Bool) (ind out : List Int) (w0 w : World) (h : Pre w0 w b I d0 d1 asc last 1 ind out) (s : ByteArray) (hs : s.size ≤ 80000) :
    Calls Tryd.prog 56 #[.pointer (some ⟨b, 0, none⟩), .string s] w (WrP w0 b I d0 d1 asc 1 (indOf (bytesOf I) last 1 ind) (out ++ preOf (bytesOf I) last 1 ind) (fun r => r = bytesOf s ++ [58])) := by
  obtain ⟨outp, indp, ho, hi, hlen, hp⟩ := pre_next h (by decide)
  rw [← ho, ← hi]
  have HP := Aside0.mk hp
  have HLEN := Aside0.mk hlen
  have HPRE := Aside0.mk h
  clear hp hlen h ho hi
  go_enter Tryd.func56, Tryd.ntmps56
  go_wp2_with (first | (go_at_call 77; go_must (refine HP.out.mono ?_; rintro e1 w1 ⟨rfl, ⟨vI1, vO1, h1⟩, hB1⟩; have H1 := Aside0.mk h1; have HB1 := Aside0.mk hB1; have c2 := h1.c2; have c6 := h1.c6; have c4 := h1.c4; have c5 := h1.c5; clear h1 hB1)) | (at_builtin; refine wpList_app_str (w0 := w0) w0.heap.size rfl (.tmp 11) (.tmp 12) 29 9 5 rfl Tryd.underlying29 Tryd.underlying9 info5 _ vO1 outp s rfl rfl H1.out.hO HB1.out HB1.out.size (by have := HLEN.out; omega) ?_; intro v1 w2 hR hB2 hK2; obtain ⟨A3, m3, hv⟩ := Kd.G_slice hR; generalize List.length _ = n3 at hv; subst hv; have HO := Aside0.mk (H1.out.toOut (Kd.G_mono hR (fun k hk => hk.elim id (fun hk => freshO H1.out k hk))) hK2); have HB2 := Aside0.mk (show Below w0.heap.size w0 (w2.setCell ⟨b, 2, none⟩ (Value.slice A3 n3 m3)) from hB2.setCell H1.out.le _); have HA2 := Aside0.mk HO.out.set; have hsz2 : (w2.setCell ⟨b, 2, none⟩ (Value.slice A3 n3 m3)).heap.size = w2.heap.size := (by simp [World.setCell]); have d2 := HO.out.c2; have dz := HO.out.fz 2; clear hR hK2 hB2) | (at_builtin; refine Kd.G_append (Kd.int .u8) (w0 := w0) w0.heap.size rfl (.tmp 22) (.tmp 23) 29 5 (.int .u8 0) 1 rfl Tryd.underlying29 info5 rfl (by decide) (by omega) (.slice A3 n3 m3) (outp ++ bytesOf s) 58 [.int .u8 58] (fun k => k ≠ b ∧ some k ≠ Hel.b) (fun _ => False) rfl (by first | (rw [hsz2]; done) | (rw [hsz2]; rfl)) rfl (fun _ hk => hk.elim) (fun k hk => freshO HA2.out k hk) HA2.out.hO HB2.out HB2.out.size (by have := HLEN.out; rw [Nat.mul_one, List.length_append, bytesOf_length]; omega) ?_; intro v1 w4 hR hB4 hG hat; obtain ⟨A4, m4, hv⟩ := Kd.G_slice hR; generalize List.length _ = n4 at hv; subst hv; have HO4 := Aside0.mk (HA2.out.toOut hR (grown_kept HA2.out.hO.row hG)); have HB4 := Aside0.mk hB4; have d4 := HO4.out.c2; have dz4 := HO4.out.fz 2; clear hR hG hB4 hat))
  go_end0
  exact ⟨rfl, ⟨_, _, _, rfl, by have hh := HO4.out.set; rwa [List.append_assoc] at hh⟩, HB4.out.setCell H1.out.le _⟩

set_option maxHeartbeats 1000000 in
set_option maxRecDepth 100000 in
theorem wOpen (b : Nat) (last : Int) (I : ByteArray) (d0 d1 : Int) (asc : Bool) (ind out : List Int) (w0 w : World) (h : Pre w0 w b I d0 d1 asc last 4 ind out) :
    Calls Tryd.prog 63 #[.pointer (some ⟨b, 0, none⟩)] w (WrP w0 b I d0 d1 asc 4 (indOf (bytesOf I) last 4 ind) (out ++ preOf (bytesOf I) last 4 ind) (fun r => r = [d0])) := by
  obtain ⟨outp, indp, ho, hi, hlen, hp⟩ := pre_next h (by decide)
  rw [← ho, ← hi]
  have HP := Aside0.mk hp
  have HLEN := Aside0.mk hlen
  have HPRE := Aside0.mk h
  clear hp hlen h ho hi
  go_enter Tryd.func63, Tryd.ntmps63
  go_wp2_with (go_at_call 77; go_must (refine HP.out.mono ?_; rintro e1 w1 ⟨rfl, ⟨vI1, vO1, h1⟩, hB1⟩; have H1 := Aside0.mk h1; have HB1 := Aside0.mk hB1; have c2 := h1.c2; have c6 := h1.c6; have c4 := h1.c4; have c5 := h1.c5; clear h1 hB1))
  obtain ⟨AI, cI, rfl, -, -⟩ := Kd.R_reads H1.out.hI
  obtain ⟨AO, cO, rfl, -, -⟩ := Kd.G_reads H1.out.hO
  have hAd := Aside0.mk (H1.out.below (below_drew (Below.refl _ _)))
  have hBd := Aside0.mk HB1.out.drew
  apply reg_cut3 (R := fun W_ => (∃ vI vO, At W_ w0.heap.size b I d0 d1 asc 4 vI vO indp (outp ++ [d0])) ∧ Below w0.heap.size w0 W_)
  case h =>
    refine start_ (n := 17) (S := fun w' => w'.cell? ⟨b, 2, none⟩ = some (.slice AO outp.length cO) ∧ w'.cell? ⟨b, 4, none⟩ = some (.int .u8 d0)) (ds := [16]) #[false, false, false, false, false, false, false, false, false, false, false, false, false, false, false, false, false] (by kernel_rfl) rfl rfl ⟨hAd.out.c2, hAd.out.c4⟩ (fun hHeld => ?_)
    refine pure_ (i := 0) (N := some 4) (v := ?_) (a' := ?_) #[true, false, false, false, false, false, false, false, false, false, false, false, false, false, false, false, false] rfl rfl (by kernel_rfl) (fun _ _ _ h => h) (Or.inl ⟨by rfl, ?_⟩) ?_ ?_
    rotate_left
    · intro w'
      go_simp
      with_reducible rfl
    rotate_left
    · simp only [Act.put, List.setIfInBounds_toArray, List.set_cons_zero, List.set_cons_succ, i64_w, i32_w]
      rfl
    refine pure_ (i := 1) (N := some 5) (v := ?_) (a' := ?_) #[true, true, false, false, false, false, false, false, false, false, false, false, false, false, false, false, false] rfl rfl (by kernel_rfl) (fun _ _ _ h => h) (Or.inl ⟨by rfl, ?_⟩) ?_ ?_
    rotate_left
    · intro w'
      go_simp
      with_reducible rfl
    rotate_left
    · simp only [Act.put, List.setIfInBounds_toArray, List.set_cons_zero, List.set_cons_succ, i64_w, i32_w]
      rfl
    refine pure_ (i := 2) (N := some 6) (v := ?_) (a' := ?_) #[true, true, true, false, false, false, false, false, false, false, false, false, false, false, false, false, false] rfl rfl (by kernel_rfl) (fun _ _ _ h => h) (Or.inl ⟨by rfl, ?_⟩) ?_ ?_
    rotate_left
    · intro w'
      go_simp
      with_reducible rfl
    rotate_left
    · simp only [Act.put, List.setIfInBounds_toArray, List.set_cons_zero, List.set_cons_succ, i64_w, i32_w]
      rfl
    refine pure_ (i := 3) (N := some 7) (v := ?_) (a' := ?_) #[true, true, true, true, false, false, false, false, false, false, false, false, false, false, false, false, false] rfl rfl (by kernel_rfl) (fun _ _ _ h => h) (Or.inl ⟨by rfl, ?_⟩) ?_ ?_
    rotate_left
    · intro w'
      go_simp
      with_reducible rfl
    rotate_left
    · simp only [Act.put, List.setIfInBounds_toArray, List.set_cons_zero, List.set_cons_succ, i64_w, i32_w]
      rfl
    refine pure_ (i := 4) (N := some 8) (v := ?_) (a' := ?_) #[true, true, true, true, true, false, false, false, false, false, false, false, false, false, false, false, false] rfl rfl (by kernel_rfl) (fun _ _ _ h => h) (Or.inl ⟨by rfl, ?_⟩) ?_ ?_
    rotate_left
    · intro w'
      go_simp
      with_reducible rfl
    rotate_left
    · simp only [Act.put, List.setIfInBounds_toArray, List.set_cons_zero, List.set_cons_succ, i64_w, i32_w]
      rfl
    refine pure_ (i := 6) (N := some 10) (v := ?_) (a' := ?_) #[true, true, true, true, true, false, true, false, false, false, false, false, false, false, false, false, false] rfl rfl (by kernel_rfl) (fun _ _ _ h => h) (Or.inl ⟨by rfl, ?_⟩) ?_ ?_
    rotate_left
    · intro w'
      go_simp
      with_reducible rfl
    rotate_left
    · simp only [Act.put, List.setIfInBounds_toArray, List.set_cons_zero, List.set_cons_succ, i64_w, i32_w]
      rfl
    refine pure_ (i := 7) (N := some 11) (v := ?_) (a' := ?_) #[true, true, true, true, true, false, true, true, false, false, false, false, false, false, false, false, false] rfl rfl (by kernel_rfl) (fun _ _ _ h => h) (Or.inl ⟨by rfl, ?_⟩) ?_ ?_
    rotate_left
    · intro w'
      go_simp
      with_reducible rfl
    rotate_left
    · simp only [Act.put, List.setIfInBounds_toArray, List.set_cons_zero, List.set_cons_succ, i64_w, i32_w]
      rfl
    refine pure_ (i := 8) (N := some 12) (v := ?_) (a' := ?_) #[true, true, true, true, true, false, true, true, true, false, false, false, false, false, false, false, false] rfl rfl (by kernel_rfl) (fun _ _ _ h => h) (Or.inl ⟨by rfl, ?_⟩) ?_ ?_
    rotate_left
    · intro w'
      go_simp
      with_reducible rfl
    rotate_left
    · simp only [Act.put, List.setIfInBounds_toArray, List.set_cons_zero, List.set_cons_succ, i64_w, i32_w]
      rfl
    refine pure_ (i := 9) (N := some 13) (v := ?_) (a' := ?_) #[true, true, true, true, true, false, true, true, true, true, false, false, false, false, false, false, false] rfl rfl (by kernel_rfl) (fun _ _ _ h => h) (Or.inl ⟨by rfl, ?_⟩) ?_ ?_
    rotate_left
    · intro w'
      go_simp
      with_reducible rfl
    rotate_left
    · simp only [Act.put, List.setIfInBounds_toArray, List.set_cons_zero, List.set_cons_succ, i64_w, i32_w]
      rfl
    refine take_ (i := 5) (N := some 9) (v := ?_) (a' := ?_) #[true, true, true, true, true, true, true, true, true, true, false, false, false, false, false, false, false] rfl rfl (by kernel_rfl) (fun _ _ _ h => h) (Or.inl ⟨by rfl, ?_⟩) hHeld ?_ ?_
    rotate_left
    · rintro w' ⟨s0, s1⟩
      go_simp
      with_reducible rfl
    rotate_left
    · simp only [Act.put, List.setIfInBounds_toArray, List.set_cons_zero, List.set_cons_succ, i64_w, i32_w]
      rfl
    refine take_ (i := 10) (N := some 14) (v := ?_) (a' := ?_) #[true, true, true, true, true, true, true, true, true, true, true, false, false, false, false, false, false] rfl rfl (by kernel_rfl) (fun _ _ _ h => h) (Or.inl ⟨by rfl, ?_⟩) hHeld ?_ ?_
    rotate_left
    · rintro w' ⟨s0, s1⟩
      go_simp
      with_reducible rfl
    rotate_left
    · simp only [Act.put, List.setIfInBounds_toArray, List.set_cons_zero, List.set_cons_succ, i64_w, i32_w]
      rfl
    refine one_ (i := 11) (N := some 15) #[true, true, true, true, true, true, true, true, true, true, true, true, false, false, false, false, false] rfl rfl (by kernel_rfl) (by decide) (fun K hK => ?_)
    refine value_ (w1 := ?_) (v := ?_) (by rfl) rfl ?_ ?_
    rotate_left 2
    · go_simp
      constructor
      · rfl
      · rfl
    refine hK.out _ _ ⟨(hAd.out.below (below_alloc (Below.refl _ _) _)).c2, (hAd.out.below (below_alloc (Below.refl _ _) _)).c4⟩ (fun hHeld => ?_)
    clear hK K
    refine norm_ (a' := ?_) ?_ ?_
    rotate_left
    · show Act.put _ (some 15) _ = _
      simp only [Act.put, List.setIfInBounds_toArray, List.set_cons_zero, List.set_cons_succ, i64_w, i32_w]
      rfl
    refine one_ (i := 12) (N := some 16) #[true, true, true, true, true, true, true, true, true, true, true, true, true, false, false, false, false] rfl rfl (by kernel_rfl) (by decide) (fun K hK => ?_)
    refine Kd.G_append_step (Kd.int .u8) (w0 := w0) w0.heap.size (by rfl) (.tmp 9) (.tmp 15) 29 5 (.int .u8 0) 1 (by rfl) Tryd.underlying29 info5 rfl (by decide) (by omega) (.slice AO outp.length cO) outp d0 [.int .u8 d0] (fun k => k ≠ b ∧ some k ≠ Hel.b) (fun _ => False) (by rfl) (by rfl) (by rfl) (fun _ hk => hk.elim) (fun k hk => freshO hAd.out k hk) hAd.out.hO hBd.out hBd.out.size (by rw [Nat.mul_one]; have := HLEN.out; omega) ?_
    intro v1 w3 hR hB3 hG hat; have hK3 := Aside0.mk (grown_kept hAd.out.hO.row hG); clear hat hG
    obtain ⟨A3, m3, hv⟩ := Kd.G_slice hR; generalize List.length _ = n3 at hv; subst hv; have HO := Aside0.mk (hAd.out.toOut hR hK3.out); have HB3 := Aside0.mk hB3; clear hR hB3 hK3; have d2 := HO.out.c2; have dz2 := HO.out.fz 2
    refine hK.out _ _ ⟨HO.out.c2, HO.out.c4⟩ (fun hHeld => ?_)
    clear hK K
    refine norm_ (a' := ?_) ?_ ?_
    rotate_left
    · show Act.put _ (some 16) _ = _
      simp only [Act.put, List.setIfInBounds_toArray, List.set_cons_zero, List.set_cons_succ, i64_w, i32_w]
      rfl
    refine pure_ (i := 13) (N := some 17) (v := ?_) (a' := ?_) #[true, true, true, true, true, true, true, true, true, true, true, true, true, true, false, false, false] rfl rfl (by kernel_rfl) (fun _ _ _ h => h) (Or.inl ⟨by rfl, ?_⟩) ?_ ?_
    rotate_left
    · intro w'
      go_simp
      with_reducible rfl
    rotate_left
    · simp only [Act.put, List.setIfInBounds_toArray, List.set_cons_zero, List.set_cons_succ, i64_w, i32_w]
      rfl
    refine pure_ (i := 14) (N := some 18) (v := ?_) (a' := ?_) #[true, true, true, true, true, true, true, true, true, true, true, true, true, true, true, false, false] rfl rfl (by kernel_rfl) (fun _ _ _ h => h) (Or.inl ⟨by rfl, ?_⟩) ?_ ?_
    rotate_left
    · intro w'
      go_simp
      with_reducible rfl
    rotate_left
    · simp only [Act.put, List.setIfInBounds_toArray, List.set_cons_zero, List.set_cons_succ, i64_w, i32_w]
      rfl
    refine pure_ (i := 15) (N := some 19) (v := ?_) (a' := ?_) #[true, true, true, true, true, true, true, true, true, true, true, true, true, true, true, true, false] rfl rfl (by kernel_rfl) (fun _ _ _ h => h) (Or.inl ⟨by rfl, ?_⟩) ?_ ?_
    rotate_left
    · intro w'
      go_simp
      with_reducible rfl
    rotate_left
    · simp only [Act.put, List.setIfInBounds_toArray, List.set_cons_zero, List.set_cons_succ, i64_w, i32_w]
      rfl
    refine last_ (i := 16) (N := none) #[true, true, true, true, true, true, true, true, true, true, true, true, true, true, true, true, true] rfl rfl (by kernel_rfl) (by decide) (fun K hK => ?_)
    refine skip_ (w1 := ?_) (by rfl) rfl ?_ ?_
    rotate_left
    · go_simp
      rfl
    refine hK.out _ _ ?_
    clear hK K
    refine done_ (by kernel_rfl) ?_
    refine ⟨A3, n3, m3, rfl, Aside0.mk ⟨⟨_, _, HO.out.set⟩, HB3.out.setCell H1.out.le _⟩⟩
  case k =>
    intro A4 n4 m4 W4 hR4
    go_wp2_with fail
    go_end0
    exact ⟨rfl, ⟨_, hR4.out.1.choose, hR4.out.1.choose_spec.choose, rfl, hR4.out.1.choose_spec.choose_spec⟩, hR4.out.2⟩

set_option maxHeartbeats 1000000 in
set_option maxRecDepth 100000 in
theorem wClose (b : Nat) (last : Int) (I : ByteArray) (d0 d1 : Int) (asc : Bool) (ind out : List Int) (w0 w : World) (h : Pre w0 w b I d0 d1 asc last 8 ind out) :
    Calls Tryd.prog 64 #[.pointer (some ⟨b, 0, none⟩)] w (WrP w0 b I d0 d1 asc 8 (indOf (bytesOf I) last 8 ind) (out ++ preOf (bytesOf I) last 8 ind) (fun r => r = [d1])) := by
  obtain ⟨outp, indp, ho, hi, hlen, hp⟩ := pre_next h (by decide)
  rw [← ho, ← hi]
  have HP := Aside0.mk hp
  have HLEN := Aside0.mk hlen
  have HPRE := Aside0.mk h
  clear hp hlen h ho hi
  go_enter Tryd.func64, Tryd.ntmps64
  go_wp2_with (go_at_call 77; go_must (refine HP.out.mono ?_; rintro e1 w1 ⟨rfl, ⟨vI1, vO1, h1⟩, hB1⟩; have H1 := Aside0.mk h1; have HB1 := Aside0.mk hB1; have c2 := h1.c2; have c6 := h1.c6; have c4 := h1.c4; have c5 := h1.c5; clear h1 hB1))
  obtain ⟨AI, cI, rfl, -, -⟩ := Kd.R_reads H1.out.hI
  obtain ⟨AO, cO, rfl, -, -⟩ := Kd.G_reads H1.out.hO
  have hAd := Aside0.mk (H1.out.below (below_drew (Below.refl _ _)))
  have hBd := Aside0.mk HB1.out.drew
  apply reg_cut3 (R := fun W_ => (∃ vI vO, At W_ w0.heap.size b I d0 d1 asc 8 vI vO indp (outp ++ [d1])) ∧ Below w0.heap.size w0 W_)
  case h =>
    refine start_ (n := 17) (S := fun w' => w'.cell? ⟨b, 2, none⟩ = some (.slice AO outp.length cO) ∧ w'.cell? ⟨b, 5, none⟩ = some (.int .u8 d1)) (ds := [16]) #[false, false, false, false, false, false, false, false, false, false, false, false, false, false, false, false, false] (by kernel_rfl) rfl rfl ⟨hAd.out.c2, hAd.out.c5⟩ (fun hHeld => ?_)
    refine pure_ (i := 0) (N := some 4) (v := ?_) (a' := ?_) #[true, false, false, false, false, false, false, false, false, false, false, false, false, false, false, false, false] rfl rfl (by kernel_rfl) (fun _ _ _ h => h) (Or.inl ⟨by rfl, ?_⟩) ?_ ?_
    rotate_left
    · intro w'
      go_simp
      with_reducible rfl
    rotate_left
    · simp only [Act.put, List.setIfInBounds_toArray, List.set_cons_zero, List.set_cons_succ, i64_w, i32_w]
      rfl
    refine pure_ (i := 1) (N := some 5) (v := ?_) (a' := ?_) #[true, true, false, false, false, false, false, false, false, false, false, false, false, false, false, false, false] rfl rfl (by kernel_rfl) (fun _ _ _ h => h) (Or.inl ⟨by rfl, ?_⟩) ?_ ?_
    rotate_left
    · intro w'
      go_simp
      with_reducible rfl
    rotate_left
    · simp only [Act.put, List.setIfInBounds_toArray, List.set_cons_zero, List.set_cons_succ, i64_w, i32_w]
      rfl
    refine pure_ (i := 2) (N := some 6) (v := ?_) (a' := ?_) #[true, true, true, false, false, false, false, false, false, false, false, false, false, false, false, false, false] rfl rfl (by kernel_rfl) (fun _ _ _ h => h) (Or.inl ⟨by rfl, ?_⟩) ?_ ?_
    rotate_left
    · intro w'
      go_simp
      with_reducible rfl
    rotate_left
    · simp only [Act.put, List.setIfInBounds_toArray, List.set_cons_zero, List.set_cons_succ, i64_w, i32_w]
      rfl
    refine pure_ (i := 3) (N := some 7) (v := ?_) (a' := ?_) #[true, true, true, true, false, false, false, false, false, false, false, false, false, false, false, false, false] rfl rfl (by kernel_rfl) (fun _ _ _ h => h) (Or.inl ⟨by rfl, ?_⟩) ?_ ?_
    rotate_left
    · intro w'
      go_simp
      with_reducible rfl
    rotate_left
    · simp only [Act.put, List.setIfInBounds_toArray, List.set_cons_zero, List.set_cons_succ, i64_w, i32_w]
      rfl
    refine pure_ (i := 4) (N := some 8) (v := ?_) (a' := ?_) #[true, true, true, true, true, false, false, false, false, false, false, false, false, false, false, false, false] rfl rfl (by kernel_rfl) (fun _ _ _ h => h) (Or.inl ⟨by rfl, ?_⟩) ?_ ?_
    rotate_left
    · intro w'
      go_simp
      with_reducible rfl
    rotate_left
    · simp only [Act.put, List.setIfInBounds_toArray, List.set_cons_zero, List.set_cons_succ, i64_w, i32_w]
      rfl
    refine pure_ (i := 6) (N := some 10) (v := ?_) (a' := ?_) #[true, true, true, true, true, false, true, false, false, false, false, false, false, false, false, false, false] rfl rfl (by kernel_rfl) (fun _ _ _ h => h) (Or.inl ⟨by rfl, ?_⟩) ?_ ?_
    rotate_left
    · intro w'
      go_simp
      with_reducible rfl
    rotate_left
    · simp only [Act.put, List.setIfInBounds_toArray, List.set_cons_zero, List.set_cons_succ, i64_w, i32_w]
      rfl
    refine pure_ (i := 7) (N := some 11) (v := ?_) (a' := ?_) #[true, true, true, true, true, false, true, true, false, false, false, false, false, false, false, false, false] rfl rfl (by kernel_rfl) (fun _ _ _ h => h) (Or.inl ⟨by rfl, ?_⟩) ?_ ?_
    rotate_left
    · intro w'
      go_simp
      with_reducible rfl
    rotate_left
    · simp only [Act.put, List.setIfInBounds_toArray, List.set_cons_zero, List.set_cons_succ, i64_w, i32_w]
      rfl
    refine pure_ (i := 8) (N := some 12) (v := ?_) (a' := ?_) #[true, true, true, true, true, false, true, true, true, false, false, false, false, false, false, false, false] rfl rfl (by kernel_rfl) (fun _ _ _ h => h) (Or.inl ⟨by rfl, ?_⟩) ?_ ?_
    rotate_left
    · intro w'
      go_simp
      with_reducible rfl
    rotate_left
    · simp only [Act.put, List.setIfInBounds_toArray, List.set_cons_zero, List.set_cons_succ, i64_w, i32_w]
      rfl
    refine pure_ (i := 9) (N := some 13) (v := ?_) (a' := ?_) #[true, true, true, true, true, false, true, true, true, true, false, false, false, false, false, false, false] rfl rfl (by kernel_rfl) (fun _ _ _ h => h) (Or.inl ⟨by rfl, ?_⟩) ?_ ?_
    rotate_left
    · intro w'
      go_simp
      with_reducible rfl
    rotate_left
    · simp only [Act.put, List.setIfInBounds_toArray, List.set_cons_zero, List.set_cons_succ, i64_w, i32_w]
      rfl
    refine take_ (i := 5) (N := some 9) (v := ?_) (a' := ?_) #[true, true, true, true, true, true, true, true, true, true, false, false, false, false, false, false, false] rfl rfl (by kernel_rfl) (fun _ _ _ h => h) (Or.inl ⟨by rfl, ?_⟩) hHeld ?_ ?_
    rotate_left
    · rintro w' ⟨s0, s1⟩
      go_simp
      with_reducible rfl
    rotate_left
    · simp only [Act.put, List.setIfInBounds_toArray, List.set_cons_zero, List.set_cons_succ, i64_w, i32_w]
      rfl
    refine take_ (i := 10) (N := some 14) (v := ?_) (a' := ?_) #[true, true, true, true, true, true, true, true, true, true, true, false, false, false, false, false, false] rfl rfl (by kernel_rfl) (fun _ _ _ h => h) (Or.inl ⟨by rfl, ?_⟩) hHeld ?_ ?_
    rotate_left
    · rintro w' ⟨s0, s1⟩
      go_simp
      with_reducible rfl
    rotate_left
    · simp only [Act.put, List.setIfInBounds_toArray, List.set_cons_zero, List.set_cons_succ, i64_w, i32_w]
      rfl
    refine one_ (i := 11) (N := some 15) #[true, true, true, true, true, true, true, true, true, true, true, true, false, false, false, false, false] rfl rfl (by kernel_rfl) (by decide) (fun K hK => ?_)
    refine value_ (w1 := ?_) (v := ?_) (by rfl) rfl ?_ ?_
    rotate_left 2
    · go_simp
      constructor
      · rfl
      · rfl
    refine hK.out _ _ ⟨(hAd.out.below (below_alloc (Below.refl _ _) _)).c2, (hAd.out.below (below_alloc (Below.refl _ _) _)).c5⟩ (fun hHeld => ?_)
    clear hK K
    refine norm_ (a' := ?_) ?_ ?_
    rotate_left
    · show Act.put _ (some 15) _ = _
      simp only [Act.put, List.setIfInBounds_toArray, List.set_cons_zero, List.set_cons_succ, i64_w, i32_w]
      rfl
    refine one_ (i := 12) (N := some 16) #[true, true, true, true, true, true, true, true, true, true, true, true, true, false, false, false, false] rfl rfl (by kernel_rfl) (by decide) (fun K hK => ?_)
    refine Kd.G_append_step (Kd.int .u8) (w0 := w0) w0.heap.size (by rfl) (.tmp 9) (.tmp 15) 29 5 (.int .u8 0) 1 (by rfl) Tryd.underlying29 info5 rfl (by decide) (by omega) (.slice AO outp.length cO) outp d1 [.int .u8 d1] (fun k => k ≠ b ∧ some k ≠ Hel.b) (fun _ => False) (by rfl) (by rfl) (by rfl) (fun _ hk => hk.elim) (fun k hk => freshO hAd.out k hk) hAd.out.hO hBd.out hBd.out.size (by rw [Nat.mul_one]; have := HLEN.out; omega) ?_
    intro v1 w3 hR hB3 hG hat; have hK3 := Aside0.mk (grown_kept hAd.out.hO.row hG); clear hat hG
    obtain ⟨A3, m3, hv⟩ := Kd.G_slice hR; generalize List.length _ = n3 at hv; subst hv; have HO := Aside0.mk (hAd.out.toOut hR hK3.out); have HB3 := Aside0.mk hB3; clear hR hB3 hK3; have d2 := HO.out.c2; have dz2 := HO.out.fz 2
    refine hK.out _ _ ⟨HO.out.c2, HO.out.c5⟩ (fun hHeld => ?_)
    clear hK K
    refine norm_ (a' := ?_) ?_ ?_
    rotate_left
    · show Act.put _ (some 16) _ = _
      simp only [Act.put, List.setIfInBounds_toArray, List.set_cons_zero, List.set_cons_succ, i64_w, i32_w]
      rfl
    refine pure_ (i := 13) (N := some 17) (v := ?_) (a' := ?_) #[true, true, true, true, true, true, true, true, true, true, true, true, true, true, false, false, false] rfl rfl (by kernel_rfl) (fun _ _ _ h => h) (Or.inl ⟨by rfl, ?_⟩) ?_ ?_
    rotate_left
    · intro w'
      go_simp
      with_reducible rfl
    rotate_left
    · simp only [Act.put, List.setIfInBounds_toArray, List.set_cons_zero, List.set_cons_succ, i64_w, i32_w]
      rfl
    refine pure_ (i := 14) (N := some 18) (v := ?_) (a' := ?_) #[true, true, true, true, true, true, true, true, true, true, true, true, true, true, true, false, false] rfl rfl (by kernel_rfl) (fun _ _ _ h => h) (Or.inl ⟨by rfl, ?_⟩) ?_ ?_
    rotate_left
    · intro w'
      go_simp
      with_reducible rfl
    rotate_left
    · simp only [Act.put, List.setIfInBounds_toArray, List.set_cons_zero, List.set_cons_succ, i64_w, i32_w]
      rfl
    refine pure_ (i := 15) (N := some 19) (v := ?_) (a' := ?_) #[true, true, true, true, true, true, true, true, true, true, true, true, true, true, true, true, false] rfl rfl (by kernel_rfl) (fun _ _ _ h => h) (Or.inl ⟨by rfl, ?_⟩) ?_ ?_
    rotate_left
    · intro w'
      go_simp
      with_reducible rfl
    rotate_left
    · simp only [Act.put, List.setIfInBounds_toArray, List.set_cons_zero, List.set_cons_succ, i64_w, i32_w]
      rfl
    refine last_ (i := 16) (N := none) #[true, true, true, true, true, true, true, true, true, true, true, true, true, true, true, true, true] rfl rfl (by kernel_rfl) (by decide) (fun K hK => ?_)
    refine skip_ (w1 := ?_) (by rfl) rfl ?_ ?_
    rotate_left
    · go_simp
      rfl
    refine hK.out _ _ ?_
    clear hK K
    refine done_ (by kernel_rfl) ?_
    refine ⟨A3, n3, m3, rfl, Aside0.mk ⟨⟨_, _, HO.out.set⟩, HB3.out.setCell H1.out.le _⟩⟩
  case k =>
    intro A4 n4 m4 W4 hR4
    go_wp2_with fail
    go_end0
    exact ⟨rfl, ⟨_, hR4.out.1.choose, hR4.out.1.choose_spec.choose, rfl, hR4.out.1.choose_spec.choose_spec⟩, hR4.out.2⟩

set_option maxHeartbeats 1000000 in
set_option maxRecDepth 100000 in
theorem wString (b : Nat) (last : Int) (I : ByteArray) (d0 d1 : Int) (asc : Bool) (ind out : List Int) (w0 w : World) (h : Pre w0 w b I d0 d1 asc last 2 ind out) (rs : List Int → Prop) (s : ByteArray)
    (hf : ∀ (w1 : World) (v : Value) (l : List Int) (P0 : Nat → Prop), Below w0.heap.size w0 w1 → Kd.G (Kd.int .u8) 5 w1 w0.heap.size P0 v l → (∀ k, P0 k → k < w1.heap.size) → l.length + 90000 ≤ 140737488355328 → Calls Tryd.prog 78 #[v, .string s, .bool asc] w1 (AppR w0 w1 P0 l rs)) :
    Calls Tryd.prog 58 #[.pointer (some ⟨b, 0, none⟩), .string s] w (WrP w0 b I d0 d1 asc 2 (indOf (bytesOf I) last 2 ind) (out ++ preOf (bytesOf I) last 2 ind) rs) := by
  obtain ⟨outp, indp, ho, hi, hlen, hp⟩ := pre_next h (by decide)
  rw [← ho, ← hi]
  have HP := Aside0.mk hp
  have HLEN := Aside0.mk hlen
  have HPRE := Aside0.mk h
  clear hp hlen h ho hi
  have HF := Aside0.mk hf
  clear hf
  go_enter Tryd.func58, Tryd.ntmps58
  go_wp2_with (go_at_call 77; go_must (refine HP.out.mono ?_; rintro e1 w1 ⟨rfl, ⟨vI1, vO1, h1⟩, hB1⟩; have H1 := Aside0.mk h1; have HB1 := Aside0.mk hB1; have c2 := h1.c2; have c6 := h1.c6; have c4 := h1.c4; have c5 := h1.c5; clear h1 hB1))
  obtain ⟨AI, cI, rfl, -, -⟩ := Kd.R_reads H1.out.hI
  obtain ⟨AO, cO, rfl, -, -⟩ := Kd.G_reads H1.out.hO
  have hAd := Aside0.mk (H1.out.below (below_drew (Below.refl _ _)))
  have hBd := Aside0.mk HB1.out.drew
  apply reg_cut3 (R := fun W_ => (∃ r vI vO, rs r ∧ At W_ w0.heap.size b I d0 d1 asc 2 vI vO indp (outp ++ r)) ∧ Below w0.heap.size w0 W_)
  case h =>
    refine start_ (n := 16) (S := fun w' => w'.cell? ⟨b, 2, none⟩ = some (.slice AO outp.length cO) ∧ w'.cell? ⟨b, 6, none⟩ = some (.bool asc)) (ds := [15]) #[false, false, false, false, false, false, false, false, false, false, false, false, false, false, false, false] (by kernel_rfl) rfl rfl ⟨hAd.out.c2, hAd.out.c6⟩ (fun hHeld => ?_)
    refine pure_ (i := 0) (N := some 6) (v := ?_) (a' := ?_) #[true, false, false, false, false, false, false, false, false, false, false, false, false, false, false, false] rfl rfl (by kernel_rfl) (fun _ _ _ h => h) (Or.inl ⟨by rfl, ?_⟩) ?_ ?_
    rotate_left
    · intro w'
      go_simp
      with_reducible rfl
    rotate_left
    · simp only [Act.put, List.setIfInBounds_toArray, List.set_cons_zero, List.set_cons_succ, i64_w, i32_w]
      rfl
    refine pure_ (i := 1) (N := some 7) (v := ?_) (a' := ?_) #[true, true, false, false, false, false, false, false, false, false, false, false, false, false, false, false] rfl rfl (by kernel_rfl) (fun _ _ _ h => h) (Or.inl ⟨by rfl, ?_⟩) ?_ ?_
    rotate_left
    · intro w'
      go_simp
      with_reducible rfl
    rotate_left
    · simp only [Act.put, List.setIfInBounds_toArray, List.set_cons_zero, List.set_cons_succ, i64_w, i32_w]
      rfl
    refine pure_ (i := 2) (N := some 8) (v := ?_) (a' := ?_) #[true, true, true, false, false, false, false, false, false, false, false, false, false, false, false, false] rfl rfl (by kernel_rfl) (fun _ _ _ h => h) (Or.inl ⟨by rfl, ?_⟩) ?_ ?_
    rotate_left
    · intro w'
      go_simp
      with_reducible rfl
    rotate_left
    · simp only [Act.put, List.setIfInBounds_toArray, List.set_cons_zero, List.set_cons_succ, i64_w, i32_w]
      rfl
    refine pure_ (i := 3) (N := some 9) (v := ?_) (a' := ?_) #[true, true, true, true, false, false, false, false, false, false, false, false, false, false, false, false] rfl rfl (by kernel_rfl) (fun _ _ _ h => h) (Or.inl ⟨by rfl, ?_⟩) ?_ ?_
    rotate_left
    · intro w'
      go_simp
      with_reducible rfl
    rotate_left
    · simp only [Act.put, List.setIfInBounds_toArray, List.set_cons_zero, List.set_cons_succ, i64_w, i32_w]
      rfl
    refine pure_ (i := 4) (N := some 10) (v := ?_) (a' := ?_) #[true, true, true, true, true, false, false, false, false, false, false, false, false, false, false, false] rfl rfl (by kernel_rfl) (fun _ _ _ h => h) (Or.inl ⟨by rfl, ?_⟩) ?_ ?_
    rotate_left
    · intro w'
      go_simp
      with_reducible rfl
    rotate_left
    · simp only [Act.put, List.setIfInBounds_toArray, List.set_cons_zero, List.set_cons_succ, i64_w, i32_w]
      rfl
    refine pure_ (i := 6) (N := some 12) (v := ?_) (a' := ?_) #[true, true, true, true, true, false, true, false, false, false, false, false, false, false, false, false] rfl rfl (by kernel_rfl) (fun _ _ _ h => h) (Or.inl ⟨by rfl, ?_⟩) ?_ ?_
    rotate_left
    · intro w'
      go_simp
      with_reducible rfl
    rotate_left
    · simp only [Act.put, List.setIfInBounds_toArray, List.set_cons_zero, List.set_cons_succ, i64_w, i32_w]
      rfl
    refine pure_ (i := 7) (N := some 13) (v := ?_) (a' := ?_) #[true, true, true, true, true, false, true, true, false, false, false, false, false, false, false, false] rfl rfl (by kernel_rfl) (fun _ _ _ h => h) (Or.inl ⟨by rfl, ?_⟩) ?_ ?_
    rotate_left
    · intro w'
      go_simp
      with_reducible rfl
    rotate_left
    · simp only [Act.put, List.setIfInBounds_toArray, List.set_cons_zero, List.set_cons_succ, i64_w, i32_w]
      rfl
    refine pure_ (i := 8) (N := some 14) (v := ?_) (a' := ?_) #[true, true, true, true, true, false, true, true, true, false, false, false, false, false, false, false] rfl rfl (by kernel_rfl) (fun _ _ _ h => h) (Or.inl ⟨by rfl, ?_⟩) ?_ ?_
    rotate_left
    · intro w'
      go_simp
      with_reducible rfl
    rotate_left
    · simp only [Act.put, List.setIfInBounds_toArray, List.set_cons_zero, List.set_cons_succ, i64_w, i32_w]
      rfl
    refine pure_ (i := 9) (N := some 15) (v := ?_) (a' := ?_) #[true, true, true, true, true, false, true, true, true, true, false, false, false, false, false, false] rfl rfl (by kernel_rfl) (fun _ _ _ h => h) (Or.inl ⟨by rfl, ?_⟩) ?_ ?_
    rotate_left
    · intro w'
      go_simp
      with_reducible rfl
    rotate_left
    · simp only [Act.put, List.setIfInBounds_toArray, List.set_cons_zero, List.set_cons_succ, i64_w, i32_w]
      rfl
    refine take_ (i := 5) (N := some 11) (v := ?_) (a' := ?_) #[true, true, true, true, true, true, true, true, true, true, false, false, false, false, false, false] rfl rfl (by kernel_rfl) (fun _ _ _ h => h) (Or.inl ⟨by rfl, ?_⟩) hHeld ?_ ?_
    rotate_left
    · rintro w' ⟨s0, s1⟩
      go_simp
      with_reducible rfl
    rotate_left
    · simp only [Act.put, List.setIfInBounds_toArray, List.set_cons_zero, List.set_cons_succ, i64_w, i32_w]
      rfl
    refine take_ (i := 10) (N := some 16) (v := ?_) (a' := ?_) #[true, true, true, true, true, true, true, true, true, true, true, false, false, false, false, false] rfl rfl (by kernel_rfl) (fun _ _ _ h => h) (Or.inl ⟨by rfl, ?_⟩) hHeld ?_ ?_
    rotate_left
    · rintro w' ⟨s0, s1⟩
      go_simp
      with_reducible rfl
    rotate_left
    · simp only [Act.put, List.setIfInBounds_toArray, List.set_cons_zero, List.set_cons_succ, i64_w, i32_w]
      rfl
    refine one_ (i := 11) (N := some 17) #[true, true, true, true, true, true, true, true, true, true, true, true, false, false, false, false] rfl rfl (by kernel_rfl) (by decide) (fun K hK => ?_)
    refine goes_ Tryd.func78 (by kernel_rfl) rfl #[.slice AO outp.length cO, .string s, .bool asc] (by rfl) rfl rfl (by simp only [List.map_toArray, List.map_cons, List.map_nil]; rfl) ?_
    with_reducible refine (HF.out w1.drew (.slice AO outp.length cO) outp _ hBd.out (at_bnd hAd.out) (fun k hk => hk.2) HLEN.out).mono ?_
    rintro e2 w3 ⟨r, v', hr, rfl, hR, hB3, hK3⟩
    refine ⟨_, rfl, ?_⟩
    obtain ⟨A3, m3, hv⟩ := Kd.G_slice hR; generalize List.length _ = n3 at hv; subst hv; have HO := Aside0.mk (at_app hAd.out hR hK3); have HB3 := Aside0.mk hB3; have HR := Aside0.mk hr; clear hR hB3 hK3 hr; have d2 := HO.out.c2; have dz2 := HO.out.fz 2
    refine hK.out _ _ ⟨HO.out.c2, HO.out.c6⟩ (fun hHeld => ?_)
    clear hK K
    refine norm_ (a' := ?_) ?_ ?_
    rotate_left
    · show Act.put _ (some 17) _ = _
      simp only [Act.put, List.setIfInBounds_toArray, List.set_cons_zero, List.set_cons_succ, i64_w, i32_w]
      rfl
    refine pure_ (i := 12) (N := some 18) (v := ?_) (a' := ?_) #[true, true, true, true, true, true, true, true, true, true, true, true, true, false, false, false] rfl rfl (by kernel_rfl) (fun _ _ _ h => h) (Or.inl ⟨by rfl, ?_⟩) ?_ ?_
    rotate_left
    · intro w'
      go_simp
      with_reducible rfl
    rotate_left
    · simp only [Act.put, List.setIfInBounds_toArray, List.set_cons_zero, List.set_cons_succ, i64_w, i32_w]
      rfl
    refine pure_ (i := 13) (N := some 19) (v := ?_) (a' := ?_) #[true, true, true, true, true, true, true, true, true, true, true, true, true, true, false, false] rfl rfl (by kernel_rfl) (fun _ _ _ h => h) (Or.inl ⟨by rfl, ?_⟩) ?_ ?_
    rotate_left
    · intro w'
      go_simp
      with_reducible rfl
    rotate_left
    · simp only [Act.put, List.setIfInBounds_toArray, List.set_cons_zero, List.set_cons_succ, i64_w, i32_w]
      rfl
    refine pure_ (i := 14) (N := some 20) (v := ?_) (a' := ?_) #[true, true, true, true, true, true, true, true, true, true, true, true, true, true, true, false] rfl rfl (by kernel_rfl) (fun _ _ _ h => h) (Or.inl ⟨by rfl, ?_⟩) ?_ ?_
    rotate_left
    · intro w'
      go_simp
      with_reducible rfl
    rotate_left
    · simp only [Act.put, List.setIfInBounds_toArray, List.set_cons_zero, List.set_cons_succ, i64_w, i32_w]
      rfl
    refine last_ (i := 15) (N := none) #[true, true, true, true, true, true, true, true, true, true, true, true, true, true, true, true] rfl rfl (by kernel_rfl) (by decide) (fun K hK => ?_)
    refine skip_ (w1 := ?_) (by rfl) rfl ?_ ?_
    rotate_left
    · go_simp
      rfl
    refine hK.out _ _ ?_
    clear hK K
    refine done_ (by kernel_rfl) ?_
    refine ⟨A3, n3, m3, rfl, Aside0.mk ⟨⟨r, _, _, HR.out, HO.out.set⟩, HB3.out.setCell H1.out.le _⟩⟩
  case k =>
    intro A4 n4 m4 W4 hR4
    go_wp2_with fail
    go_end0
    exact ⟨rfl, hR4.out.1, hR4.out.2⟩

end Go.Proofs.YtdggjpdhbailpaaDoor.Wr
