/- append of a row of bytes to a row of the call's own, and AppendUint at base 10 from 100 on. Conditions: the row that is appended to is the call's own; the table uint64pow10 reads as laid. -/
import Derived.Test.YticfdfomlcohpaaDoorZUi1
import Derived.Deep.AppendLies
import Derived.Lib.ItoaMem
import Derived.Lib.ItoaLen
namespace Go.Proofs.YticfdfomlcohpaaDoor.Ui2
open Go.Sort Go.Lib Go.Proofs.YticfdfomlcohpaaDoor.Sd1 Go.Proofs.YticfdfomlcohpaaDoor.Ui1 Go.RowKit Go.Proofs.YticfdfomlcohpaaDoorW.PrintWords Go.Proofs.YticfdfomlcohpaaDoorW.PrintLast Go.Proofs.YticfdfomlcohpaaDoorW.PrintMore Go.Proofs.YticfdfomlcohpaaDoor.As1 Go.Proofs.YticfdfomlcohpaaDoor.PFnTextAscii

section
variable {P : Program} {ops : Array Oper} {rest : List Oper} {o : Oper} {a : Act} {Q : Exit → Act → World → Prop}
theorem wpList_app_row {w0 W : World} (base : Nat) (hgd : o.guard = none) (s x : Operand) (t e : TypeId)
    (ho : o.op = .call { callee := .builtin .append, args := #[s, x], argTypes := #[t, t] }) (ht : P.underlying t = some (.slice e))
    (hinfo : (P.info? e).map (fun i => (i.zero, i.size, i.bytes)) = some (some (.int .u8 0), 1, 1)) (ok : Nat → Prop) (v : Value) (xs ys : List Int) (ad : Addr) (m c : Nat) (hs : a.eval s = v) (hx : a.eval x = .slice (some ad) m c)
    (hm : ys.length = m) (h0 : 0 < m) (hys : ∀ j y, ys[j]? = some y → W.cell? (ad.add j) = some (.int .u8 y))
    (HO : Kd.R (Kd.int .u8) e W base ok v xs) (HB : Below base w0 W) (hbase : base ≤ W.heap.size) (hl : xs.length + m ≤ 140737488355328)
    (h : ∀ v1 w1, Kd.R (Kd.int .u8) e w1 base (fun k => ok k ∨ W.heap.size ≤ k) v1 (xs ++ ys) → Below base w0 w1 → Kept W w1 ok → wpList P ops Q rest (a.put o.dst v1) w1) :
    wpList P ops Q (o :: rest) a W := by
  obtain ⟨i0, hi, hzz⟩ := Option.map_eq_some_iff.1 hinfo
  simp only [Prod.mk.injEq] at hzz
  obtain ⟨hz0, hz1, hz2⟩ := hzz
  have hO := Kd.own_of_R HO
  refine wpList_append_lies W hgd s x t ho base e i0 (.int .u8 0) 1 1 ht hi hz0 hz1 hz2 rfl (by decide) v xs.length (nums .u8 xs) hs hO ad m c (nums .u8 ys) hx (by simp [nums, hm]) ?_ ?_ h0 (by simp only [maxLen]; omega) (by omega) hbase _ rfl ?_
  · intro j u hu
    simp only [nums, List.getElem?_map, Option.map_eq_some_iff] at hu
    obtain ⟨y, hy, rfl⟩ := hu
    exact hys j y hy
  · intro u hu
    simp only [nums, List.mem_map] at hu
    obtain ⟨y, _, rfl⟩ := hu
    rfl
  · intro g cap w1 h1 h2 h3 _
    have hl2 : (xs ++ ys).length = xs.length + m := by rw [List.length_append, hm]
    refine h _ w1 (Kd.R_of_own (h1 := fun _ => rfl) ?_ (fun k hk => ?_)) (HB.grown h2 hbase (own_base hO)) ⟨h2.size, fun k hk hn => h2.block k hk (fun he => hn (HO.1 k he.symm))⟩
    · show w1.ownsRow base e 1 _ (xs ++ ys).length (nums .u8 (xs ++ ys))
      rw [hl2, nums_append]
      exact h1
    · have hk2 : g = k := by simpa [Value.ownBlock] using hk
      subst hk2
      rcases h3 with h3 | h3
      · exact .inl (HO.1 g h3)
      · exact .inr (by omega)
end

def buf24 (u : Nat) : List Int := (List.range 24).map (byteAt u)
def cells24 (u : Nat) : Array Value := ((buf24 u).map fun x => Value.int .u8 x).toArray
theorem cells24_at (u t : Nat) (h : t < 24) : (cells24 u)[t]? = some (.int .u8 (byteAt u t)) := by
  simp [cells24, buf24, h]
theorem cells24_size (u : Nat) : (cells24 u).size = 24 := by simp [cells24, buf24]

theorem put24 (u : Nat) (dk : Array UInt8) (v' : Nat) (hi : FmtInv (nDigits u) u 0 v' dk) : putCells (fun (b : UInt8) => Value.int .u8 (b.toNat : Int)) 0 dk (Array.replicate 24 (.int .u8 0)) = cells24 u := by
  refine Array.ext_getElem? fun i => ?_
  by_cases h24 : i < 24
  · rw [cells24_at u i h24]
    unfold putCells
    rw [Array.getElem?_mapIdx, Array.getElem?_replicate, if_pos h24, Option.map_some]
    unfold byteAt
    by_cases hl : i < nDigits u
    · rw [if_pos ⟨Nat.zero_le _, by rw [hi.size]; omega⟩, if_pos hl, Nat.sub_zero, hi.done i (Nat.zero_le _) hl]
    · rw [if_neg (by rw [hi.size]; omega), if_neg hl]
  · rw [Array.getElem?_eq_none (by unfold putCells; simp; omega), Array.getElem?_eq_none (by rw [cells24_size]; omega)]

/-- formatBase10 into the first digits of a row of 24 zeros. -/
theorem fb24 (b u : Nat) (t : TypeId) (hu : u < 18446744073709551616) (w : World) (hb : w.heap[b]? = some (.cells (Array.replicate 24 (.int .u8 0)) t (0, 0))) :
    Calls Tryd.prog 84 #[.slice (some ⟨b, 0, none⟩) (nDigits u) 24, .int .u64 u] w fun e w' =>
      e = .returned (.tuple #[]) ∧ w'.heap[b]? = some (.cells (cells24 u) t (0, 0)) ∧ Below b w w' ∧ (∀ k, k ≠ b → w'.heap[k]? = w.heap[k]?) := by
  have h20 := nDigits_le20 u hu
  have hH : Holds (fun (b : UInt8) => Value.int .u8 (b.toNat : Int)) w b 0 (Array.replicate (nDigits u) (0 : UInt8)) := by
    intro j hj
    rw [Array.size_replicate] at hj
    refine ⟨?_, blk_frozen hb _⟩
    rw [blk_cell hb]
    have : (Array.replicate (nDigits u) (0 : UInt8))[j]! = 0 := by
      rw [getElem!_pos _ j (by simpa using hj)]
      simp
    rw [this, Nat.zero_add, Array.getElem?_replicate, if_pos (by omega)]
    rfl
  have h := Tryd.internal_strconv_formatBase10 b 0 24 u (Array.replicate (nDigits u) (0 : UInt8)) w hH (by rw [Array.size_replicate]; exact lt_pow_nDigits u) hu (by rw [Array.size_replicate]; omega)
  rw [Array.size_replicate] at h
  refine h.mono fun e w' ⟨he, n, v', dk, hw, hi⟩ => ⟨he, ?_, ?_, ?_⟩
  · subst hw
    show (mapBlock w b _).heap[b]? = _
    unfold mapBlock
    rw [Array.getElem?_modify, if_pos rfl, hb, Option.map_some]
    show some (Obj.cells (putCells _ 0 dk _) t (0, 0)) = _
    rw [put24 u dk v' hi]
  · subst hw
    refine Below.mk rfl rfl rfl ?_ fun k hk => ?_
    · show w.heap.size ≤ (mapBlock w b _).heap.size
      unfold mapBlock
      simp
    · show (mapBlock w b _).heap[k]? = _
      unfold mapBlock
      rw [Array.getElem?_modify, if_neg (by omega)]
  · subst hw
    intro k hk
    show (mapBlock w b _).heap[k]? = _
    unfold mapBlock
    rw [Array.getElem?_modify, if_neg (fun h => hk h.symm)]


end Go.Proofs.YticfdfomlcohpaaDoor.Ui2
