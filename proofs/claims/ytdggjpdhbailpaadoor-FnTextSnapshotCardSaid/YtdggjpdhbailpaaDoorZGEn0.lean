/- An encoder without an indent as it lies in memory, beside an elder value of its bytes; what a store into one of its fields makes of it. Conditions: none. -/
import Derived.Test.YtdggjpdhbailpaaDoorZBl
import Derived.Test.YtdggjpdhbailpaaDoorZG0
import Derived.Test.YtdggjpdhbailpaaDoorZGAs1
namespace Go.Proofs.YtdggjpdhbailpaaDoor.En0
open Go.RowKit Go.Proofs.YtdggjpdhbailpaaDoorW.PrintWords Go.Proofs.YtdggjpdhbailpaaDoorW.PrintLast Go.Proofs.YtdggjpdhbailpaaDoorW.PrintMore Go.Proofs.YtdggjpdhbailpaaDoor.As1

/-- A block beside the encoder that is kept, and what lies there. -/
class Hel where
  b : Option Nat
  o : Obj

set_option linter.unusedSectionVars false
variable [γ_ : Gho] [η_ : Hel]
def cs7 (last : Int) (vI vO : Value) (I : ByteArray) (d0 d1 : Int) (asc : Bool) : Array Value :=
  #[.int .u8 last, vI, vO, .string I, .int .u8 d0, .int .u8 d1, .bool asc]

structure At (w : World) (base b : Nat) (I : ByteArray) (d0 d1 : Int) (asc : Bool) (last : Int) (vI vO : Value) (ind out : List Int) : Prop where
  blk : w.heap[b]? = some (.cells (cs7 last vI vO I d0 d1 asc) 115 (0, 0))
  le : base ≤ b
  hI : Kd.R (Kd.int .u8) 5 w base (fun k => k ≠ b) vI ind
  hO : Kd.G (Kd.int .u8) 5 w base (fun k => k ≠ b ∧ some k ≠ Hel.b) vO out
  hN : vI = .slice none 0 0
  hS : ∀ q, Hel.b = some q → q ≠ b ∧ w.heap[q]? = some Hel.o

section
variable {w w1 : World} {base b : Nat} {I : ByteArray} {d0 d1 : Int} {asc : Bool} {last : Int} {vI vO : Value} {ind out : List Int}
theorem At.lt (h : At w base b I d0 d1 asc last vI vO ind out) : b < w.heap.size := blk_lt h.blk
theorem At.below (h : At w base b I d0 d1 asc last vI vO ind out) (hb : Below w.heap.size w w1) : At w1 base b I d0 d1 asc last vI vO ind out :=
  ⟨blk_below h.blk hb, h.le, Kd.R_below h.hI hb, Kd.G_below h.hO hb, h.hN, fun q hq => ⟨(h.hS q hq).1, blk_below (h.hS q hq).2 hb⟩⟩
theorem far_S {p : Addr} {u : Value} (h : ∀ q, Hel.b = some q → q ≠ b ∧ w.heap[q]? = some Hel.o) (hp : p.block = b) : ∀ q, Hel.b = some q → q ≠ b ∧ (w.setCell p u).heap[q]? = some Hel.o :=
  fun q hq => ⟨(h q hq).1, (Below.heap_setCell w p u q (by rw [hp]; exact (h q hq).1)).trans (h q hq).2⟩
theorem own_lt_I (h : At w base b I d0 d1 asc last vI vO ind out) (k : Nat) (hk : some k = vI.ownBlock) : k < w.heap.size :=
  own_lt (Kd.own_of_R h.hI) k hk.symm
theorem own_lt_O (h : At w base b I d0 d1 asc last vI vO ind out) (k : Nat) (hk : some k = vO.ownBlock) : k < w.heap.size :=
  Kd.G_lt h.hO k hk.symm
/-- A block that is new is none of the encoder's. -/
theorem freshO (h : At w base b I d0 d1 asc last vI vO ind out) (k : Nat) (hk : w.heap.size ≤ k) : k ≠ b ∧ some k ≠ Hel.b := by
  refine ⟨fun e => ?_, fun e => ?_⟩
  · have := h.lt; omega
  · have := blk_lt (h.hS k e.symm).2; omega
theorem freshI (h : At w base b I d0 d1 asc last vI vO ind out) (k : Nat) (hk : w.heap.size ≤ k) : k ≠ b ∧ some k ≠ vO.ownBlock := by
  refine ⟨fun e => ?_, fun e => ?_⟩
  · have := h.lt; omega
  · have := own_lt_O h k e; omega
theorem At.c0 (h : At w base b I d0 d1 asc last vI vO ind out) : w.cell? ⟨b, 0, none⟩ = some (.int .u8 last) := by rw [blk_cell h.blk]; rfl
theorem At.c1 (h : At w base b I d0 d1 asc last vI vO ind out) : w.cell? ⟨b, 1, none⟩ = some vI := by rw [blk_cell h.blk]; rfl
theorem At.c2 (h : At w base b I d0 d1 asc last vI vO ind out) : w.cell? ⟨b, 2, none⟩ = some vO := by rw [blk_cell h.blk]; rfl
theorem At.c3 (h : At w base b I d0 d1 asc last vI vO ind out) : w.cell? ⟨b, 3, none⟩ = some (.string I) := by rw [blk_cell h.blk]; rfl
theorem At.c4 (h : At w base b I d0 d1 asc last vI vO ind out) : w.cell? ⟨b, 4, none⟩ = some (.int .u8 d0) := by rw [blk_cell h.blk]; rfl
theorem At.c5 (h : At w base b I d0 d1 asc last vI vO ind out) : w.cell? ⟨b, 5, none⟩ = some (.int .u8 d1) := by rw [blk_cell h.blk]; rfl
theorem At.c6 (h : At w base b I d0 d1 asc last vI vO ind out) : w.cell? ⟨b, 6, none⟩ = some (.bool asc) := by rw [blk_cell h.blk]; rfl
theorem At.fz (h : At w base b I d0 d1 asc last vI vO ind out) (i : Nat) : w.frozen? ⟨b, i, none⟩ = false := blk_frozen h.blk i

/-- e.lastType = next. -/
theorem At.set_last (h : At w base b I d0 d1 asc last vI vO ind out) (nx : Int) : At (w.setCell ⟨b, 0, none⟩ (.int .u8 nx)) base b I d0 d1 asc nx vI vO ind out :=
  ⟨blk_put h.blk 0 _ rfl, h.le, Kd.R_far h.hI (fun _ hk => hk) _, Kd.G_far h.hO (fun _ hk => hk.1) _, h.hN, far_S h.hS rfl⟩

/-- What an append to e.out leaves, ahead of the store. -/
structure Out (w : World) (base b : Nat) (I : ByteArray) (d0 d1 : Int) (asc : Bool) (last : Int) (vI vO v1 : Value) (ind out1 : List Int) : Prop where
  blk : w.heap[b]? = some (.cells (cs7 last vI vO I d0 d1 asc) 115 (0, 0))
  le : base ≤ b
  hI : Kd.R (Kd.int .u8) 5 w base (fun k => k ≠ b) vI ind
  h1 : Kd.G (Kd.int .u8) 5 w base (fun k => k ≠ b ∧ some k ≠ Hel.b) v1 out1
  hN : vI = .slice none 0 0
  hS : ∀ q, Hel.b = some q → q ≠ b ∧ w.heap[q]? = some Hel.o
theorem At.toOut {v1 : Value} {out1 : List Int} (h : At w base b I d0 d1 asc last vI vO ind out) (hr : Kd.G (Kd.int .u8) 5 w1 base (fun k => k ≠ b ∧ some k ≠ Hel.b) v1 out1) (hk : Kept w w1 (fun k => k ≠ b ∧ some k ≠ Hel.b)) : Out w1 base b I d0 d1 asc last vI vO v1 ind out1 := by
  refine ⟨blk_kept h.blk hk (fun h => h.1 rfl), h.le, ?_, hr, h.hN, fun q hq => ⟨(h.hS q hq).1, blk_kept (h.hS q hq).2 hk (fun h3 => h3.2 hq.symm)⟩⟩
  have h2 : Kd.R (Kd.int .u8) 5 w base (fun _ => False) vI ind := Kd.R_of_own (h1 := fun _ => rfl) (Kd.own_of_R h.hI) (fun k hk => by rw [h.hN] at hk; cases hk)
  exact Kd.R_mono (Kd.R_kept h2 hk (fun k h3 _ => h3)) (fun _ hk => hk.elim)
theorem Out.below {v1 : Value} {out1 : List Int} (h : Out w base b I d0 d1 asc last vI vO v1 ind out1) (hb : Below w.heap.size w w1) : Out w1 base b I d0 d1 asc last vI vO v1 ind out1 :=
  ⟨blk_below h.blk hb, h.le, Kd.R_below h.hI hb, Kd.G_below h.h1 hb, h.hN, fun q hq => ⟨(h.hS q hq).1, blk_below (h.hS q hq).2 hb⟩⟩
theorem Out.c2 {v1 : Value} {out1 : List Int} (h : Out w base b I d0 d1 asc last vI vO v1 ind out1) : w.cell? ⟨b, 2, none⟩ = some vO := by rw [blk_cell h.blk]; rfl
theorem Out.c1 {v1 : Value} {out1 : List Int} (h : Out w base b I d0 d1 asc last vI vO v1 ind out1) : w.cell? ⟨b, 1, none⟩ = some vI := by rw [blk_cell h.blk]; rfl
theorem Out.c4 {v1 : Value} {out1 : List Int} (h : Out w base b I d0 d1 asc last vI vO v1 ind out1) : w.cell? ⟨b, 4, none⟩ = some (.int .u8 d0) := by rw [blk_cell h.blk]; rfl
theorem Out.c5 {v1 : Value} {out1 : List Int} (h : Out w base b I d0 d1 asc last vI vO v1 ind out1) : w.cell? ⟨b, 5, none⟩ = some (.int .u8 d1) := by rw [blk_cell h.blk]; rfl
theorem Out.c6 {v1 : Value} {out1 : List Int} (h : Out w base b I d0 d1 asc last vI vO v1 ind out1) : w.cell? ⟨b, 6, none⟩ = some (.bool asc) := by rw [blk_cell h.blk]; rfl
theorem Out.fz {v1 : Value} {out1 : List Int} (h : Out w base b I d0 d1 asc last vI vO v1 ind out1) (i : Nat) : w.frozen? ⟨b, i, none⟩ = false := blk_frozen h.blk i
theorem Out.set {v1 : Value} {out1 : List Int} (h : Out w base b I d0 d1 asc last vI vO v1 ind out1) : At (w.setCell ⟨b, 2, none⟩ v1) base b I d0 d1 asc last vI v1 ind out1 :=
  ⟨blk_put h.blk 2 _ rfl, h.le, Kd.R_far h.hI (fun _ hk => hk) _, Kd.G_far h.h1 (fun _ hk => hk.1) _, h.hN, far_S h.hS rfl⟩

end

/-- The encoder, wherever its two rows lie. -/
def Enc (w : World) (base b : Nat) (I : ByteArray) (d0 d1 : Int) (asc : Bool) (last : Int) (ind out : List Int) : Prop :=
  ∃ vI vO, At w base b I d0 d1 asc last vI vO ind out

end Go.Proofs.YtdggjpdhbailpaaDoor.En0
