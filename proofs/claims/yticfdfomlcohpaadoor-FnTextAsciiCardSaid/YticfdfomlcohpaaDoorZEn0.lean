/- The encoder as it lies in memory, and what a store into one of its fields makes of it. Conditions: none. -/
import Derived.Test.YticfdfomlcohpaaDoorZBl
import Derived.Test.YticfdfomlcohpaaDoorZAs1
namespace Go.Proofs.YticfdfomlcohpaaDoor.En0
open Go.RowKit Go.Proofs.YticfdfomlcohpaaDoorW.PrintWords Go.Proofs.YticfdfomlcohpaaDoorW.PrintLast Go.Proofs.YticfdfomlcohpaaDoorW.PrintMore Go.Proofs.YticfdfomlcohpaaDoor.As1

def cs7 (last : Int) (vI vO : Value) (I : ByteArray) (d0 d1 : Int) (asc : Bool) : Array Value :=
  #[.int .u8 last, vI, vO, .string I, .int .u8 d0, .int .u8 d1, .bool asc]

structure At (w : World) (base b : Nat) (I : ByteArray) (d0 d1 : Int) (asc : Bool) (last : Int) (vI vO : Value) (ind out : List Int) : Prop where
  blk : w.heap[b]? = some (.cells (cs7 last vI vO I d0 d1 asc) 115 (0, 0))
  le : base ≤ b
  hI : Kd.R (Kd.int .u8) 5 w base (fun k => k ≠ b) vI ind
  hO : Kd.R (Kd.int .u8) 5 w base (fun k => k ≠ b ∧ some k ≠ vI.ownBlock) vO out

section
variable {w w1 : World} {base b : Nat} {I : ByteArray} {d0 d1 : Int} {asc : Bool} {last : Int} {vI vO : Value} {ind out : List Int}
theorem At.lt (h : At w base b I d0 d1 asc last vI vO ind out) : b < w.heap.size := blk_lt h.blk
theorem At.below (h : At w base b I d0 d1 asc last vI vO ind out) (hb : Below w.heap.size w w1) : At w1 base b I d0 d1 asc last vI vO ind out :=
  ⟨blk_below h.blk hb, h.le, Kd.R_below h.hI hb, Kd.R_below h.hO hb⟩
theorem own_lt_I (h : At w base b I d0 d1 asc last vI vO ind out) (k : Nat) (hk : some k = vI.ownBlock) : k < w.heap.size :=
  own_lt (Kd.own_of_R h.hI) k hk.symm
theorem own_lt_O (h : At w base b I d0 d1 asc last vI vO ind out) (k : Nat) (hk : some k = vO.ownBlock) : k < w.heap.size :=
  own_lt (Kd.own_of_R h.hO) k hk.symm
/-- A block that is new is none of the encoder's. -/
theorem freshO (h : At w base b I d0 d1 asc last vI vO ind out) (k : Nat) (hk : w.heap.size ≤ k) : k ≠ b ∧ some k ≠ vI.ownBlock := by
  refine ⟨fun e => ?_, fun e => ?_⟩
  · have := h.lt; omega
  · have := own_lt_I h k e; omega
theorem freshI (h : At w base b I d0 d1 asc last vI vO ind out) (k : Nat) (hk : w.heap.size ≤ k) : k ≠ b ∧ some k ≠ vO.ownBlock := by
  refine ⟨fun e => ?_, fun e => ?_⟩
  · have := h.lt; omega
  · have := own_lt_O h k e; omega
theorem At.c0 (h : At w base b I d0 d1 asc last vI vO ind out) : w.cell? ⟨b, 0, none⟩ = some (.int .u8 last) := by rw [blk_cell h.blk]; rfl
theorem At.c1 (h : At w base b I d0 d1 asc last vI vO ind out) : w.cell? ⟨b, 1, none⟩ = some vI := by rw [blk_cell h.blk]; rfl
theorem At.c2 (h : At w base b I d0 d1 asc last vI vO ind out) : w.cell? ⟨b, 2, none⟩ = some vO := by rw [blk_cell h.blk]; rfl
theorem At.c3 (h : At w base b I d0 d1 asc last vI vO ind out) : w.cell? ⟨b, 3, none⟩ = some (.string I) := by rw [blk_cell h.blk]; rfl
theorem At.c4 (h : At w base b I d0 d1 asc last vI vO ind out) : w.cell? ⟨b, 4, none⟩ = some (.int .u8 d0) := by rw [blk_cell h.blk]; rfl
theorem At.c5 (h : At w base b I d0 d1 asc last vI vO ind out) : w.cell? ⟨b, 5, none⟩ = some (.int .u8 d1) := by rw [blk_cell h.blk]; rfl
theorem At.c6 (h : At w base b I d0 d1 asc last vI vO ind out) : w.cell? ⟨b, 6, none⟩ = some (.bool asc) := by rw [blk_cell h.blk]; rfl
theorem At.fz (h : At w base b I d0 d1 asc last vI vO ind out) (i : Nat) : w.frozen? ⟨b, i, none⟩ = false := blk_frozen h.blk i

/-- e.lastType = next. -/
theorem At.set_last (h : At w base b I d0 d1 asc last vI vO ind out) (nx : Int) : At (w.setCell ⟨b, 0, none⟩ (.int .u8 nx)) base b I d0 d1 asc nx vI vO ind out :=
  ⟨blk_put h.blk 0 _ rfl, h.le, Kd.R_far h.hI (fun _ hk => hk) _, Kd.R_far h.hO (fun _ hk => hk.1) _⟩

/-- What an append to e.out leaves, ahead of the store. -/
structure Out (w : World) (base b : Nat) (I : ByteArray) (d0 d1 : Int) (asc : Bool) (last : Int) (vI vO v1 : Value) (ind out1 : List Int) : Prop where
  blk : w.heap[b]? = some (.cells (cs7 last vI vO I d0 d1 asc) 115 (0, 0))
  le : base ≤ b
  hI : Kd.R (Kd.int .u8) 5 w base (fun k => k ≠ b) vI ind
  h1 : Kd.R (Kd.int .u8) 5 w base (fun k => k ≠ b ∧ some k ≠ vI.ownBlock) v1 out1
theorem At.toOut {v1 : Value} {out1 : List Int} (h : At w base b I d0 d1 asc last vI vO ind out) (hr : Kd.R (Kd.int .u8) 5 w1 base (fun k => k ≠ b ∧ some k ≠ vI.ownBlock) v1 out1) (hk : Kept w w1 (fun k => k ≠ b ∧ some k ≠ vI.ownBlock)) : Out w1 base b I d0 d1 asc last vI vO v1 ind out1 := by
  refine ⟨blk_kept h.blk hk (fun h => h.1 rfl), h.le, ?_, hr⟩
  have h2 : Kd.R (Kd.int .u8) 5 w base (fun k => k ≠ b ∧ some k = vI.ownBlock) vI ind := Kd.R_of_own (h1 := fun _ => rfl) (Kd.own_of_R h.hI) (fun k hk => ⟨h.hI.1 k hk, hk.symm⟩)
  exact Kd.R_mono (Kd.R_kept h2 hk (fun k h3 h4 => h4.2 h3.2)) (fun _ hk => hk.1)
theorem Out.below {v1 : Value} {out1 : List Int} (h : Out w base b I d0 d1 asc last vI vO v1 ind out1) (hb : Below w.heap.size w w1) : Out w1 base b I d0 d1 asc last vI vO v1 ind out1 :=
  ⟨blk_below h.blk hb, h.le, Kd.R_below h.hI hb, Kd.R_below h.h1 hb⟩
theorem Out.c2 {v1 : Value} {out1 : List Int} (h : Out w base b I d0 d1 asc last vI vO v1 ind out1) : w.cell? ⟨b, 2, none⟩ = some vO := by rw [blk_cell h.blk]; rfl
theorem Out.c1 {v1 : Value} {out1 : List Int} (h : Out w base b I d0 d1 asc last vI vO v1 ind out1) : w.cell? ⟨b, 1, none⟩ = some vI := by rw [blk_cell h.blk]; rfl
theorem Out.c4 {v1 : Value} {out1 : List Int} (h : Out w base b I d0 d1 asc last vI vO v1 ind out1) : w.cell? ⟨b, 4, none⟩ = some (.int .u8 d0) := by rw [blk_cell h.blk]; rfl
theorem Out.c5 {v1 : Value} {out1 : List Int} (h : Out w base b I d0 d1 asc last vI vO v1 ind out1) : w.cell? ⟨b, 5, none⟩ = some (.int .u8 d1) := by rw [blk_cell h.blk]; rfl
theorem Out.c6 {v1 : Value} {out1 : List Int} (h : Out w base b I d0 d1 asc last vI vO v1 ind out1) : w.cell? ⟨b, 6, none⟩ = some (.bool asc) := by rw [blk_cell h.blk]; rfl
theorem Out.fz {v1 : Value} {out1 : List Int} (h : Out w base b I d0 d1 asc last vI vO v1 ind out1) (i : Nat) : w.frozen? ⟨b, i, none⟩ = false := blk_frozen h.blk i
theorem Out.set {v1 : Value} {out1 : List Int} (h : Out w base b I d0 d1 asc last vI vO v1 ind out1) : At (w.setCell ⟨b, 2, none⟩ v1) base b I d0 d1 asc last vI v1 ind out1 :=
  ⟨blk_put h.blk 2 _ rfl, h.le, Kd.R_far h.hI (fun _ hk => hk) _, Kd.R_far h.h1 (fun _ hk => hk.1) _⟩

/-- What an append to e.indents (or a cut of it) leaves, ahead of the store. -/
structure Ind (w : World) (base b : Nat) (I : ByteArray) (d0 d1 : Int) (asc : Bool) (last : Int) (vI vO v1 : Value) (ind1 out : List Int) : Prop where
  blk : w.heap[b]? = some (.cells (cs7 last vI vO I d0 d1 asc) 115 (0, 0))
  le : base ≤ b
  h1 : Kd.R (Kd.int .u8) 5 w base (fun k => k ≠ b ∧ some k ≠ vO.ownBlock) v1 ind1
  hO : Kd.R (Kd.int .u8) 5 w base (fun k => k ≠ b) vO out
theorem At.apart (h : At w base b I d0 d1 asc last vI vO ind out) : Kd.R (Kd.int .u8) 5 w base (fun k => k ≠ b ∧ some k ≠ vO.ownBlock) vI ind :=
  Kd.R_of_own (h1 := fun _ => rfl) (Kd.own_of_R h.hI) (fun k hk => ⟨h.hI.1 k hk, fun e => (h.hO.1 k e.symm).2 hk.symm⟩)
theorem At.toInd {v1 : Value} {ind1 : List Int} (h : At w base b I d0 d1 asc last vI vO ind out) (hr : Kd.R (Kd.int .u8) 5 w1 base (fun k => k ≠ b ∧ some k ≠ vO.ownBlock) v1 ind1) (hk : Kept w w1 (fun k => k ≠ b ∧ some k ≠ vO.ownBlock)) : Ind w1 base b I d0 d1 asc last vI vO v1 ind1 out := by
  refine ⟨blk_kept h.blk hk (fun h => h.1 rfl), h.le, hr, ?_⟩
  have h2 : Kd.R (Kd.int .u8) 5 w base (fun k => k ≠ b ∧ some k = vO.ownBlock) vO out := Kd.R_of_own (h1 := fun _ => rfl) (Kd.own_of_R h.hO) (fun k hk => ⟨(h.hO.1 k hk).1, hk.symm⟩)
  exact Kd.R_mono (Kd.R_kept h2 hk (fun k h3 h4 => h4.2 h3.2)) (fun _ hk => hk.1)
theorem Ind.c1 {v1 : Value} {ind1 : List Int} (h : Ind w base b I d0 d1 asc last vI vO v1 ind1 out) : w.cell? ⟨b, 1, none⟩ = some vI := by rw [blk_cell h.blk]; rfl
theorem Ind.c3 {v1 : Value} {ind1 : List Int} (h : Ind w base b I d0 d1 asc last vI vO v1 ind1 out) : w.cell? ⟨b, 3, none⟩ = some (.string I) := by rw [blk_cell h.blk]; rfl
theorem Ind.fz {v1 : Value} {ind1 : List Int} (h : Ind w base b I d0 d1 asc last vI vO v1 ind1 out) (i : Nat) : w.frozen? ⟨b, i, none⟩ = false := blk_frozen h.blk i
theorem Ind.below {v1 : Value} {ind1 : List Int} (h : Ind w base b I d0 d1 asc last vI vO v1 ind1 out) (hb : Below w.heap.size w w1) : Ind w1 base b I d0 d1 asc last vI vO v1 ind1 out :=
  ⟨blk_below h.blk hb, h.le, Kd.R_below h.h1 hb, Kd.R_below h.hO hb⟩
theorem Ind.set {v1 : Value} {ind1 : List Int} (h : Ind w base b I d0 d1 asc last vI vO v1 ind1 out) : At (w.setCell ⟨b, 1, none⟩ v1) base b I d0 d1 asc last v1 vO ind1 out := by
  refine ⟨blk_put h.blk 1 _ rfl, h.le, Kd.R_mono (Kd.R_far h.h1 (fun _ hk => hk.1) _) (fun _ hk => hk.1), ?_⟩
  have h2 : Kd.R (Kd.int .u8) 5 w base (fun k => k ≠ b ∧ some k ≠ v1.ownBlock) vO out := Kd.R_of_own (h1 := fun _ => rfl) (Kd.own_of_R h.hO) (fun k hk => ⟨h.hO.1 k hk, fun e => (h.h1.1 k e.symm).2 hk.symm⟩)
  exact Kd.R_far h2 (fun _ hk => hk.1) _
end

/-- e.indents = e.indents[:q] -/
theorem At.cut {w : World} {base b : Nat} {I : ByteArray} {d0 d1 : Int} {asc : Bool} {last : Int} {vO : Value} {A : Option Addr} {n c : Nat} {ind out : List Int} (h : At w base b I d0 d1 asc last (.slice A n c) vO ind out) (q : Nat) (hq : q ≤ ind.length) : At (w.setCell ⟨b, 1, none⟩ (.slice A q c)) base b I d0 d1 asc last (.slice A q c) vO (ind.take q) out :=
  Ind.set ⟨h.blk, h.le, Kd.R_take h.apart hq, Kd.R_mono h.hO (fun _ hk => hk.1)⟩

/-- The encoder, wherever its two rows lie. -/
def Enc (w : World) (base b : Nat) (I : ByteArray) (d0 d1 : Int) (asc : Bool) (last : Int) (ind out : List Int) : Prop :=
  ∃ vI vO, At w base b I d0 d1 asc last vI vO ind out

end Go.Proofs.YticfdfomlcohpaaDoor.En0
