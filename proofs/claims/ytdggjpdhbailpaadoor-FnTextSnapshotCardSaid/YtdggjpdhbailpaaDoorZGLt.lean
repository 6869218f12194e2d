/- The four tables that the law reads, from the row's condition. Conditions: the row's own. -/
import Derived.Test.YtdggjpdhbailpaaDoorZGTabs
import Derived.Test.YtdggjpdhbailpaaDoorRows
import Derived.Lib.LaidTab
import Derived.Lib.LaidU8T
import Derived.MakeChecks
import Derived.Lay
import Derived.LaidMore
import Derived.Stop.LaidErr
namespace Go.Proofs.YtdggjpdhbailpaaDoor.Lt
open Go.Lib

/-- An array of pairs that reads as the table. -/
theorem rows_cell {w : World} {g : Nat} {t e : TypeId} {n : Nat} {fs : Array Field} {rows : List (Nat × Nat)} {name : String}
    (hg : Tryd.prog.globalNamed name = some g) (hty : (Tryd.prog.globals[g]?).map (·.type) = some t) (ht : Tryd.prog.underlying t = some (.array n e)) (he : Tryd.prog.underlying e = some (.struct fs))
    (hf : ∀ (i : Nat) (f : Field), fs[i]? = some f → Tryd.prog.underlying f.type = some (.int .u64) ∧ f.offset = i ∧ Tryd.prog.cellsOf f.type = 1) (hce : Tryd.prog.cellsOf e = 2) (hfs : fs.size = 2)
    (h : VarReads Tryd.prog w name (.agg (rows.map fun x => .agg [.lit (.int .u64 x.1), .lit (.int .u64 x.2)]))) (j : Nat) (hj : j < n) :
    w.cell? ⟨g, j * 2, none⟩ = some (.int .u64 ((rows.getD j (0, 0)).1 : Int)) ∧ w.cell? ⟨g, j * 2 + 1, none⟩ = some (.int .u64 ((rows.getD j (0, 0)).2 : Int)) := by
  obtain ⟨g', t', cs, fuel, p, hg', hty', hvar, hd⟩ := h
  obtain rfl := Option.some.inj (hg.symm.trans hg')
  obtain rfl := Option.some.inj (hty.symm.trans hty')
  obtain ⟨fuel', d, q, hdi, hel⟩ := array_elem ht hd j hj
  simp only [List.getElem?_map, Option.map_eq_some_iff] at hdi
  obtain ⟨r, hr, rfl⟩ := hdi
  rw [hce] at hel
  have hcs := ints_of_struct (zs := [(r.1 : Int), (r.2 : Int)]) he hf (by rw [hce, hfs]) hel
  have e0 := congrArg (·[0]?) hcs
  have e1 := congrArg (·[1]?) hcs
  have hrd : rows.getD j (0, 0) = r := by simp [List.getD_eq_getElem?_getD, hr]
  rw [hrd]
  simp only [List.getElem?_take, List.getElem?_drop] at e0 e1
  constructor
  · rw [World.var?_cell hg hvar (j * 2), ← Array.getElem?_toList]
    simpa using e0
  · rw [World.var?_cell hg hvar (j * 2 + 1), ← Array.getElem?_toList]
    simpa using e1

theorem pow_of {W : World} (h : VarReads Tryd.prog W "internal/strconv.pow10Tab" Go.Pinned.pow10Tab) : Sf2.Pow W := fun j hj =>
  rows_cell (g := 7) (rows := Pinned.pow10Rows) (by kernel_rfl) (by kernel_rfl) Tryd.underlying187 Tryd.underlying186
    (fun i f hi => by
      match i, hi with
      | 0, hi => simp at hi; subst hi; exact ⟨Tryd.underlying24, rfl, by kernel_rfl⟩
      | 1, hi => simp at hi; subst hi; exact ⟨Tryd.underlying24, rfl, by kernel_rfl⟩
      | i + 2, hi => simp at hi) (by kernel_rfl) rfl h j hj

theorem tab_of {W : World} {rest : List (String × DataW Unit)} (h : laidMet Tryd.prog (("internal/strconv.uint64pow10", Rows.laid_internal_strconv_uint64pow10) :: rest) W) : Ft1.Tab W := by
  have e : (Rows.laid_internal_strconv_uint64pow10 : DataW Unit) = Lib.tabData .u64 Lib.pow10Tab := by kernel_rfl
  rw [e] at h
  exact Lib.tabIs_of_head (g := 1) (by kernel_rfl) (by kernel_rfl) Tryd.underlying149 Tryd.underlying24 (by kernel_rfl) (by kernel_rfl) h

def dbj : List Int := [0, 1, 56, 2, 57, 49, 28, 3, 61, 58, 42, 50, 38, 29, 17, 4, 62, 47, 59, 36, 45, 43, 51, 22, 53, 39, 33, 30, 24, 18, 12, 5, 63, 55, 48, 27, 60, 41, 37, 16, 46, 35, 44, 21, 52, 32, 23, 11, 54, 26, 40, 15, 34, 20, 31, 10, 25, 14, 19, 9, 13, 8, 7, 6]
theorem tz_of {W : World} {rest : List (String × DataW Unit)} (h : laidMet Tryd.prog (("math/bits.deBruijn64tab", Rows.laid_math_bits_deBruijn64tab) :: rest) W) : Uh.Tz W := by
  have e : (Rows.laid_math_bits_deBruijn64tab : DataW Unit) = Lib.tabData .u8 dbj := by kernel_rfl
  rw [e] at h
  have := (Lib.tabIs_of_head (g := 6) (by kernel_rfl) (by kernel_rfl) Tryd.underlying184 Tryd.underlying5 (by kernel_rfl) (by kernel_rfl) h).cell (g := 6) (by kernel_rfl) 15 (by decide)
  exact this

def ren : Go.Shelf.Ren := ⟨fun n => n, fun | 119 => 180 | 138 => 182 | 139 => 183 | n => n, fun n => n⟩
theorem u8_of {W : World} (h3 : VarReads Tryd.prog W "unicode/utf8.first" Go.Pinned.utf8First) (h4 : VarReads Tryd.prog W "unicode/utf8.acceptRanges" Rows.laid_unicode_utf8_acceptRanges) : Lib.Utf8Tabs 3 4 W := by
  have e3 : Go.Pinned.utf8First = firstData := by kernel_rfl
  have e4 : (Rows.laid_unicode_utf8_acceptRanges : DataW Unit) = acceptData := by kernel_rfl
  rw [e3] at h3
  rw [e4] at h4
  exact utf8Tabs_of_readsT (ρ := ren) ⟨Tryd.underlying5, Tryd.underlying180, Tryd.underlying182, Tryd.underlying183⟩
    ⟨by kernel_rfl, by kernel_rfl, by kernel_rfl, by kernel_rfl, by kernel_rfl, by kernel_rfl, by kernel_rfl⟩ h3 h4

set_option maxRecDepth 10000 in
theorem tabs {W : World} (hL : laidMetH Tryd.prog Rows.fnTextSnapshotRow.laid W) : Ap.Tabs W := by
  rw [MakeChecks.laidMetH_plain _ _ _ (by kernel_rfl)] at hL
  have h1 := hL.tail
  have h3 := hL.tail.tail.tail
  have r6 := Lib.laidMet.reads (n := "internal/strconv.pow10Tab") (d := Rows.laid_internal_strconv_pow10Tab) hL (by simp [Rows.fnTextSnapshotRow])
  have r7 := Lib.laidMet.reads (n := "unicode/utf8.first") (d := Rows.laid_unicode_utf8_first) hL (by simp [Rows.fnTextSnapshotRow])
  have r4 := Lib.laidMet.reads (n := "unicode/utf8.acceptRanges") (d := Rows.laid_unicode_utf8_acceptRanges) hL (by simp [Rows.fnTextSnapshotRow])
  exact ⟨pow_of r6, tab_of h3, tz_of h1, u8_of r7 r4⟩

end Go.Proofs.YtdggjpdhbailpaaDoor.Lt
