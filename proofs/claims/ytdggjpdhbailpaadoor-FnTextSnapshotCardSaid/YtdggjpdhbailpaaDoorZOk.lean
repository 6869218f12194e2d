/- Calls of an encoder as they lie in memory. Conditions: none. -/
import Derived.Test.YtdggjpdhbailpaaDoorZBl
namespace Go.Proofs.YtdggjpdhbailpaaDoor.Ok
open Go.RowKit Go.Proofs.YtdggjpdhbailpaaDoorW.PrintWords Go.Proofs.YtdggjpdhbailpaaDoorW.PrintLast Go.Proofs.YtdggjpdhbailpaaDoorW.PrintMore Go.Proofs.YtdggjpdhbailpaaDoor.Bl Go.Proofs.YtdggjpdhbailpaaDoor.PFnTextAscii

def kOp : Kd TOp := Kd.iso (Kd.pair (Kd.int .i64) (Kd.pair Kd.string (Kd.pair Kd.bool (Kd.pair (Kd.int .i64) (Kd.pair (Kd.int .u64) (Kd.pair (Kd.int .u64) (Kd.int .i64))))))) (fun o : TOp => (o.d, o.s, o.b, o.i, o.u, o.f, o.z))
def csOf (o : TOp) : List Value := [.int .i64 o.d, .string o.s, .bool o.b, .int .i64 o.i, .int .u64 o.u, .int .u64 o.f, .int .i64 o.z]
theorem kOp_sz : kOp.sz = 7 := rfl
theorem kOp_E : kOp.E = [] := rfl
theorem kOp_open {w : World} {o : TOp} {cs : List Value} (h : kOp.K w o cs) : cs = csOf o := by
  obtain ⟨_, _, rfl, rfl, ⟨_, _, rfl, rfl, ⟨_, _, rfl, rfl, ⟨_, _, rfl, rfl, ⟨_, _, rfl, rfl, ⟨_, _, rfl, rfl, rfl⟩⟩⟩⟩⟩⟩ := h
  rfl
theorem kOp_mkM (w : World) (base : Nat) (ok : Nat → Prop) (o : TOp) : kOp.M w base ok o (csOf o) :=
  ⟨[.int .i64 o.d], [.string o.s, .bool o.b, .int .i64 o.i, .int .u64 o.u, .int .u64 o.f, .int .i64 o.z], rfl, rfl, ⟨[.string o.s], [.bool o.b, .int .i64 o.i, .int .u64 o.u, .int .u64 o.f, .int .i64 o.z], rfl, rfl, ⟨[.bool o.b], [.int .i64 o.i, .int .u64 o.u, .int .u64 o.f, .int .i64 o.z], rfl, rfl, ⟨[.int .i64 o.i], [.int .u64 o.u, .int .u64 o.f, .int .i64 o.z], rfl, rfl, ⟨[.int .u64 o.u], [.int .u64 o.f, .int .i64 o.z], rfl, rfl, ⟨[.int .u64 o.f], [.int .i64 o.z], rfl, rfl, rfl⟩⟩⟩⟩⟩⟩
def zOp : TOp := ⟨0, ⟨#[]⟩, false, 0, 0, 0, 0⟩
def rdOp (xs : List TOp) (i : Int) : TOp := xs.getD i.toNat zOp
theorem at_op {w : World} {A : Option Addr} {n : Nat} {xs : List TOp} (h : Kd.C kOp w A n xs) (i : Int) (h0 : 0 ≤ i) (h1 : i < n) : ∃ ad, A = some ad ∧ w.cell? (ad.add (i.toNat * 7)) = some (.int .i64 (rdOp xs i).d) ∧
    w.cell? ⟨(ad.add (i.toNat * 7)).block, (ad.add (i.toNat * 7)).off + 1, none⟩ = some (.string (rdOp xs i).s) ∧
    w.cell? ⟨(ad.add (i.toNat * 7)).block, (ad.add (i.toNat * 7)).off + 2, none⟩ = some (.bool (rdOp xs i).b) ∧
    w.cell? ⟨(ad.add (i.toNat * 7)).block, (ad.add (i.toNat * 7)).off + 3, none⟩ = some (.int .i64 (rdOp xs i).i) ∧
    w.cell? ⟨(ad.add (i.toNat * 7)).block, (ad.add (i.toNat * 7)).off + 4, none⟩ = some (.int .u64 (rdOp xs i).u) ∧
    w.cell? ⟨(ad.add (i.toNat * 7)).block, (ad.add (i.toNat * 7)).off + 5, none⟩ = some (.int .u64 (rdOp xs i).f) ∧
    w.cell? ⟨(ad.add (i.toNat * 7)).block, (ad.add (i.toNat * 7)).off + 6, none⟩ = some (.int .i64 (rdOp xs i).z) := by
  obtain ⟨ad, c, e, _, hK, hc0⟩ := Kd.C_get h zOp i h0 h1
  have hc : ∀ j u, c[j]? = some u → w.cell? (ad.add (i.toNat * 7 + j)) = some u := hc0
  obtain rfl := kOp_open hK
  exact ⟨ad, e, hc 0 _ rfl, by rw [← add_field _ _ 1 (by omega)]; exact hc 1 _ rfl, by rw [← add_field _ _ 2 (by omega)]; exact hc 2 _ rfl, by rw [← add_field _ _ 3 (by omega)]; exact hc 3 _ rfl, by rw [← add_field _ _ 4 (by omega)]; exact hc 4 _ rfl, by rw [← add_field _ _ 5 (by omega)]; exact hc 5 _ rfl, by rw [← add_field _ _ 6 (by omega)]; exact hc 6 _ rfl⟩

end Go.Proofs.YtdggjpdhbailpaaDoor.Ok
