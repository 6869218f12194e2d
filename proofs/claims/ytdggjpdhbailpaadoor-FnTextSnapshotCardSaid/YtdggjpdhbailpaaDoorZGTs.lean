/- Snapshot and Reset of the encoder. Conditions: the encoder lies in a block of its own. -/
import Derived.Test.YtdggjpdhbailpaaDoorZGTe2
import Derived.Deep.LoopGhost
namespace Go.Proofs.YtdggjpdhbailpaaDoor.Ts0
set_option linter.unusedSimpArgs false
set_option linter.unusedVariables false
open Go.RowKit Go.Proofs.YtdggjpdhbailpaaDoorW.PrintWords Go.Proofs.YtdggjpdhbailpaaDoorW.PrintLast Go.Proofs.YtdggjpdhbailpaaDoorW.PrintMore Go.Proofs.YtdggjpdhbailpaaDoor.En0 Go.Proofs.YtdggjpdhbailpaaDoor.PFnTextAscii

set_option maxRecDepth 100000 in
theorem snapshot (b : Nat) (last : Int) (A : Option Addr) (n c : Nat) (w : World) (hb : b < w.heap.size) (c0 : w.cell? ⟨b, 0, none⟩ = some (.int .u8 last)) (c1 : w.cell? ⟨b, 1, none⟩ = some (.slice none 0 0)) (c2 : w.cell? ⟨b, 2, none⟩ = some (.slice A n c)) :
    Calls Tryd.prog 28 #[.pointer (some ⟨b, 0, none⟩)] w fun e w' => e = .returned (.agg #[.int .u8 last, .slice none 0 0, .slice A n c]) ∧ Below w.heap.size w w' := by
  have hu := Tryd.underlying82
  have hk : ∀ (o : Obj) (i : Nat), (w.alloc o).cell? ⟨b, i, none⟩ = w.cell? ⟨b, i, none⟩ := fun o i => (below_alloc (Below.refl w.heap.size w) o).cell hb
  have d0 := (hk (Obj.cells #[Value.int .u8 0, .slice none 0 0, .slice none 0 0] 82) 0).trans c0
  have d1 := (hk (Obj.cells #[Value.int .u8 0, .slice none 0 0, .slice none 0 0] 82) 1).trans c1
  have d2 := (hk (Obj.cells #[Value.int .u8 0, .slice none 0 0, .slice none 0 0] 82) 2).trans c2
  clear hk
  go_enter Tryd.func28, Tryd.ntmps28
  go_wp2_with fail
  exact bodyPost_ret (v := .agg #[.int .u8 last, .slice none 0 0, .slice A n c]) (by simp [results, Tryd.results28, go_sem]) rfl ⟨rfl, below_alloc (Below.refl _ _) _⟩

set_option maxRecDepth 100000 in
theorem reset (b : Nat) (cs : Array Value) (T : TypeId) (t : Int) (A : Option Addr) (n c : Nat) (w : World) (hb : w.heap[b]? = some (.cells cs T (0, 0))) (x0 x1 x2 : Value) (c0 : cs[0]? = some x0) (c1 : cs[1]? = some x1) (c2 : cs[2]? = some x2) :
    Calls Tryd.prog 29 #[.pointer (some ⟨b, 0, none⟩), .agg #[.int .u8 t, .slice none 0 0, .slice A n c]] w fun e w' => e = .returned (.tuple #[]) ∧ ∃ o, w' = (((w.alloc o).setCell ⟨b, 0, none⟩ (.int .u8 t)).setCell ⟨b, 1, none⟩ (.slice none 0 0)).setCell ⟨b, 2, none⟩ (.slice A n c) := by
  have hu := Tryd.underlying82
  have HX := Aside0.mk (blk_alloc hb (Obj.cells #[Value.int .u8 t, .slice none 0 0, .slice A n c] 82))
  have d0 := (blk_cell HX.out 0).trans c0
  have d1 := (blk_cell HX.out 1).trans c1
  have d2 := (blk_cell HX.out 2).trans c2
  have z0 := blk_frozen HX.out 0
  have z1 := blk_frozen HX.out 1
  have z2 := blk_frozen HX.out 2
  clear hb c0 c1 c2
  go_enter Tryd.func29, Tryd.ntmps29
  go_wp2_with fail
  go_end0
  exact ⟨rfl, _, rfl⟩

end Go.Proofs.YtdggjpdhbailpaaDoor.Ts0

/- TextSnapshot: the calls behind Snapshot are gone behind Reset: what it returns is the fold over the calls. Conditions: as in St; at most 2000 calls each. -/
namespace Go.Proofs.YtdggjpdhbailpaaDoor.Ts
set_option linter.unusedSimpArgs false
set_option linter.unusedVariables false
open Go.RowKit Go.Proofs.YtdggjpdhbailpaaDoorW.PrintWords Go.Proofs.YtdggjpdhbailpaaDoorW.PrintLast Go.Proofs.YtdggjpdhbailpaaDoorW.PrintMore Go.Proofs.YtdggjpdhbailpaaDoor.As1 Go.Proofs.YtdggjpdhbailpaaDoor.En0 Go.Proofs.YtdggjpdhbailpaaDoor.Bl Go.Proofs.YtdggjpdhbailpaaDoor.Pn2 Go.Proofs.YtdggjpdhbailpaaDoor.Wr Go.Proofs.YtdggjpdhbailpaaDoor.Td Go.Proofs.YtdggjpdhbailpaaDoor.Td2 Go.Proofs.YtdggjpdhbailpaaDoor.Ok Go.Proofs.YtdggjpdhbailpaaDoor.St Go.Proofs.YtdggjpdhbailpaaDoor.Ne Go.Proofs.YtdggjpdhbailpaaDoor.Te2 Go.Proofs.YtdggjpdhbailpaaDoor.Lf Go.Proofs.YtdggjpdhbailpaaDoor.PFnTextAscii

set_option maxHeartbeats 2000000 in
set_option maxRecDepth 100000 in
theorem snap (T : World → Prop) (R : TOp → List Int) (hd : ∀ o, Td2.Good o → Does T o (R o)) (A : Option Addr) (c : Nat) (ops : List TOp) (A2 : Option Addr) (c2 : Nat) (oth : List TOp) (p : Nat) (w0 : World) (hT : T w0) (hr : Kd.C kOp w0 A ops.length ops) (hc : ops.length ≤ c) (hr2 : Kd.C kOp w0 A2 oth.length oth) (hc2 : oth.length ≤ c2) (hp : p ≤ ops.length) (hn : ops.length ≤ 2000) (hn2 : oth.length ≤ 2000) (hg : ∀ o ∈ ops, Td2.Good o) (hg2 : ∀ o ∈ oth, Td2.Good o) :
    Calls Tryd.prog 14 #[.slice A ops.length c, .int .i64 (p : Int), .slice A2 oth.length c2] w0 fun e w' => ∃ v : Value, e = .returned v ∧ Kd.R (Kd.int .u8) 5 w' w0.heap.size (fun _ => True) v (run R (0, []) ops).2 ∧ Below w0.heap.size w0 w' := by
  obtain ⟨F, hF⟩ : ∃ F, F = (run R (0, []) ops).2 := ⟨_, rfl⟩
  rw [← hF]
  have HF := Aside0.mk hF
  clear hF
  have hr3 := Kd.C_drop hr hp hc
  obtain ⟨A3, hA3⟩ : ∃ A3, A3 = (if c = p then A else A.map (·.add (p * kOp.sz))) := ⟨_, rfl⟩
  rw [← hA3] at hr3
  have HA3 := Aside0.mk hA3
  clear hA3
  obtain ⟨rest, hrest⟩ : ∃ rest, rest = ops.drop p := ⟨_, rfl⟩
  have hrl : rest.length = ops.length - p := by rw [hrest]; simp
  rw [← hrest] at hr3
  have hg3 : ∀ o ∈ rest, Td2.Good o := fun o ho => hg o (by rw [hrest] at ho; exact List.mem_of_mem_drop ho)
  have HREST := Aside0.mk (And.intro hrest hrl)
  clear hrest
  have HR := Aside0.mk hr
  have HR2 := Aside0.mk hr2
  have HR3 := Aside0.mk hr3
  have HG3 := Aside0.mk hg3
  have HC := Aside0.mk (And.intro hc hc2)
  have HP := Aside0.mk (And.intro hn (And.intro hn2 (And.intro hg (And.intro hg2 (And.intro hd (And.intro hT hp))))))
  have p1 : (0 : Int) ≤ (p : Int) := by omega
  have p2 : (p : Int) ≤ (c : Int) := by omega
  have p3 : p ≤ c := by omega
  have p4 : (p : Int) ≤ (ops.length : Int) := by omega
  have hu71 := Tryd.underlying71
  clear hr hc hr2 hc2 hr3 hn hn2 hg hg2 hg3 hd hT hrl
  have HNew := Aside0.mk new
  go_enter Tryd.func14, Tryd.ntmps14
  go_wp2_with (go_at_call 21; go_must (refine (HNew.out _).mono ?_; rintro e1 w1 ⟨rfl, hA1, hB1⟩; have HA1 := Aside0.mk hA1; have HB1 := Aside0.mk hB1; clear hA1 hB1))
  have HS0 : Aside0 (St g0 h0 w0 w1 (w0.heap.size + 1) (0, []) 0) := Aside0.mk (st0 (Below.refl _ _) HA1.out HB1.out)
  clear HA1 HB1 HNew hp
  go_loopg [27] p (fun k v27 w' => ∃ i : Nat, v27 = .int .i64 (i : Int) ∧ Aside0 (i + k = p) ∧ Aside0 (St g0 h0 w0 w' (w0.heap.size + 1) (run R (0, []) (ops.take i)) i))
  case atStart => exact ⟨0, rfl, ⟨by omega⟩, HS0⟩
  case round =>
    clear HS0
    obtain ⟨i, rfl, HK, HS⟩ := hrel
    by_cases hi : i < p
    · have hi3 : i < ops.length := by omega
      obtain ⟨ad, e, x0, x1, x2, x3, x4, x5, x6⟩ := at_op HR.out (i : Int) (by omega) (by omega)
      cases e
      rw [Int.toNat_natCast] at x0 x1 x2 x3 x4 x5 x6
      have hB := HS.out.1
      replace x0 := (hB.cell (World.block_lt_of_cell? w0 _ x0)).trans x0
      replace x1 := (hB.cell (World.block_lt_of_cell? w0 _ x1)).trans x1
      replace x2 := (hB.cell (World.block_lt_of_cell? w0 _ x2)).trans x2
      replace x3 := (hB.cell (World.block_lt_of_cell? w0 _ x3)).trans x3
      replace x4 := (hB.cell (World.block_lt_of_cell? w0 _ x4)).trans x4
      replace x5 := (hB.cell (World.block_lt_of_cell? w0 _ x5)).trans x5
      replace x6 := (hB.cell (World.block_lt_of_cell? w0 _ x6)).trans x6
      have hgo : Td2.Good (rdOp ops (i : Int)) := by
        refine HP.out.2.2.1 _ ?_
        simp [rdOp, List.getD_eq_getElem?_getD, hi3]
      have HTD : Aside0 (∀ W, Below wr.heap.size wr W → Calls Tryd.prog 22 #[.pointer (some ⟨w0.heap.size + 1, 0, none⟩), opV (rdOp ops (i : Int))] W fun e w' => e = .returned (.tuple #[]) ∧ St g0 h0 w0 w' (w0.heap.size + 1) (run R (0, []) (ops.take (i + 1))) (i + 1)) := Aside0.mk (by
        intro W hW
        rw [run_snoc R _ ops i hi3]
        exact Go.Proofs.YtdggjpdhbailpaaDoor.St.step (HP.out.2.2.2.2.1 _ hgo) HP.out.2.2.2.2.2.1 (HS.out.below hW) (by have := HP.out.1; have := HP.out.2.1; have := HP.out.2.2.2.2.2.2; have := HREST.out.2; omega))
      have HI2 := Aside0.mk hi
      have c0 : decide ((i : Int) < (p : Int)) = true := decide_eq_true (by omega)
      have c1 := eq_true (show (0 : Int) ≤ (i : Int) by omega)
      have c2 := eq_true (show (i : Int) < (p : Int) by omega)
      have c3 : IntKind.i64.wrap ((i : Int) + 1) = ((i + 1 : Nat) : Int) := by have := HP.out.1; have := HP.out.2.1; have := HREST.out.2; rw [IntKind.wrap_i64]; omega
      have c4 : wrap64 ((i : Int) + 1) = ((i + 1 : Nat) : Int) := by have := HP.out.1; have := HP.out.2.1; have := HREST.out.2; unfold wrap64; omega
      clear hB hi hgo
      go_wp2_with (go_at_call 22; go_must (refine (HTD.out _ (below_alloc (Below.refl _ _) _)).mono ?_; rintro e2 w2 ⟨rfl, hS2⟩; have HS2 := Aside0.mk hS2; clear hS2))
      clear hi3
      go_roundg (p - (i + 1))
      case measure => have := HK.out; have := HI2.out; omega
      case rel => exact ⟨i + 1, by first | rfl | (simp; done) | (simp [c4]; done), ⟨by have := HI2.out; omega⟩, HS2⟩
    · have hin : p = i := by have := HK.out; omega
      subst hin
      have c0 : decide ((p : Int) < (p : Int)) = false := decide_eq_false (by omega)
      have hS := HS.out
      obtain ⟨l1, o1, he⟩ : ∃ l1 o1, (l1, o1) = run R (0, []) (ops.take p) := ⟨_, _, rfl⟩
      rw [← he] at hS
      have HE := Aside0.mk he
      have HLA := Aside0.mk hS.2.2
      obtain ⟨A1, m1, hle1, k0, k1, k2, hnext⟩ := St.snap hS
      obtain ⟨vb, hb⟩ := St.blk hS
      have HNX := Aside0.mk hnext
      have HBL := Aside0.mk (blk_lt hb)
      clear hS he hle1 hnext hb hi HS HK
      go_wp2_with (go_at_call 28; go_must (refine (Ts0.snapshot _ l1 A1 o1.length m1 _ HBL.out k0 k1 k2).mono ?_; rintro e3 w3 ⟨rfl, hB3⟩; have HB3 := Aside0.mk hB3; clear hB3))
      have HS1 : Aside0 (St ⟨.slice A1 o1.length m1, o1⟩ ⟨some w3.heap.size, (Obj.cells #[Value.int .u8 l1, .slice none 0 0, .slice A1 o1.length m1] 82 (0, 0))⟩ w0 (w3.alloc (Obj.cells #[Value.int .u8 l1, .slice none 0 0, .slice A1 o1.length m1] 82 (0, 0))) (w0.heap.size + 1) (l1, o1) p) := Aside0.mk (HNX.out _ _ _ (below_alloc HB3.out _) HB3.out.size (blk_new _ _))
      have c6 : decide ((p : Int) < (p : Int)) = false := c0
      clear k0 k1 k2 HBL HNX HB3 c0
      go_loopg [39] oth.length (fun k v39 w' => ∃ j : Nat, v39 = .int .i64 (j : Int) ∧ Aside0 (j + k = oth.length) ∧ Aside0 (St ⟨.slice A1 o1.length m1, o1⟩ ⟨some w3.heap.size, (Obj.cells #[Value.int .u8 l1, .slice none 0 0, .slice A1 o1.length m1] 82 (0, 0))⟩ w0 w' (w0.heap.size + 1) (run R (l1, o1) (oth.take j)) (p + j)))
      case atStart => exact ⟨0, rfl, ⟨by omega⟩, HS1⟩
      case round =>
        clear HS1
        obtain ⟨j, rfl, HK, HS⟩ := hrel
        by_cases hi : j < oth.length
        · have hi3 : j < oth.length := hi
          obtain ⟨ad, e, x0, x1, x2, x3, x4, x5, x6⟩ := at_op HR2.out (j : Int) (by omega) (by omega)
          cases e
          rw [Int.toNat_natCast] at x0 x1 x2 x3 x4 x5 x6
          have hB := HS.out.1
          replace x0 := (hB.cell (World.block_lt_of_cell? w0 _ x0)).trans x0
          replace x1 := (hB.cell (World.block_lt_of_cell? w0 _ x1)).trans x1
          replace x2 := (hB.cell (World.block_lt_of_cell? w0 _ x2)).trans x2
          replace x3 := (hB.cell (World.block_lt_of_cell? w0 _ x3)).trans x3
          replace x4 := (hB.cell (World.block_lt_of_cell? w0 _ x4)).trans x4
          replace x5 := (hB.cell (World.block_lt_of_cell? w0 _ x5)).trans x5
          replace x6 := (hB.cell (World.block_lt_of_cell? w0 _ x6)).trans x6
          have hgo : Td2.Good (rdOp oth (j : Int)) := by
            refine HP.out.2.2.2.1 _ ?_
            simp [rdOp, List.getD_eq_getElem?_getD, hi3]
          have HTD : Aside0 (∀ W, Below wr.heap.size wr W → Calls Tryd.prog 22 #[.pointer (some ⟨w0.heap.size + 1, 0, none⟩), opV (rdOp oth (j : Int))] W fun e w' => e = .returned (.tuple #[]) ∧ St ⟨.slice A1 o1.length m1, o1⟩ ⟨some w3.heap.size, (Obj.cells #[Value.int .u8 l1, .slice none 0 0, .slice A1 o1.length m1] 82 (0, 0))⟩ w0 w' (w0.heap.size + 1) (run R (l1, o1) (oth.take (j + 1))) (p + j + 1)) := Aside0.mk (by
            intro W hW
            rw [run_snoc R _ oth j hi3]
            exact Go.Proofs.YtdggjpdhbailpaaDoor.St.step (HP.out.2.2.2.2.1 _ hgo) HP.out.2.2.2.2.2.1 (HS.out.below hW) (by have := HP.out.1; have := HP.out.2.1; have := HP.out.2.2.2.2.2.2; have := HREST.out.2; omega))
          have HI2 := Aside0.mk hi
          have c0 : decide ((j : Int) < (oth.length : Int)) = true := decide_eq_true (by omega)
          have c1 := eq_true (show (0 : Int) ≤ (j : Int) by omega)
          have c2 := eq_true (show (j : Int) < (oth.length : Int) by omega)
          have c3 : IntKind.i64.wrap ((j : Int) + 1) = ((j + 1 : Nat) : Int) := by have := HP.out.1; have := HP.out.2.1; have := HREST.out.2; rw [IntKind.wrap_i64]; omega
          have c4 : wrap64 ((j : Int) + 1) = ((j + 1 : Nat) : Int) := by have := HP.out.1; have := HP.out.2.1; have := HREST.out.2; unfold wrap64; omega
          clear hB hi hgo
          go_wp2_with (go_at_call 22; go_must (refine (HTD.out _ (below_alloc (Below.refl _ _) _)).mono ?_; rintro e2 w2 ⟨rfl, hS2⟩; have HS2 := Aside0.mk hS2; clear hS2))
          clear hi3
          go_roundg (oth.length - (j + 1))
          case measure => have := HK.out; have := HI2.out; omega
          case rel => exact ⟨j + 1, by first | rfl | (simp; done) | (simp [c4]; done), ⟨by have := HI2.out; omega⟩, HS2⟩
        · have hin : j = oth.length := by have := HK.out; omega
          subst hin
          have c0 : decide ((oth.length : Int) < (oth.length : Int)) = false := decide_eq_false (by omega)
          obtain ⟨hne, hq⟩ := St.held HS.out
          obtain ⟨vb, hb⟩ := St.blk HS.out
          have m0 : wr.cell? ⟨w3.heap.size, 0, none⟩ = some (.int .u8 l1) := (blk_cell hq 0).trans rfl
          have m1_ : wr.cell? ⟨w3.heap.size, 1, none⟩ = some (.slice none 0 0) := (blk_cell hq 1).trans rfl
          have m2 : wr.cell? ⟨w3.heap.size, 2, none⟩ = some (.slice A1 o1.length m1) := (blk_cell hq 2).trans rfl
          have HBK := Aside0.mk hb
          have HRS : ∀ w', (∃ o, w' = (((wr.alloc o).setCell ⟨w0.heap.size + 1, 0, none⟩ (.int .u8 l1)).setCell ⟨w0.heap.size + 1, 1, none⟩ (.slice none 0 0)).setCell ⟨w0.heap.size + 1, 2, none⟩ (.slice A1 o1.length m1)) → St g0 h0 w0 w' (w0.heap.size + 1) (l1, o1) p := by
            rintro w' ⟨o, rfl⟩
            exact St.reset (t := (l1, o1)) (HS.out.below (below_alloc (Below.refl _ _) _)) rfl rfl HLA.out.1 HLA.out.2
          have HRS := Aside0.mk HRS
          clear hne hq hb hi HS HK
          go_wp2_with (go_at_call 29; go_must (refine (Ts0.reset _ _ _ l1 A1 o1.length m1 _ HBK.out _ _ _ rfl rfl rfl).mono ?_; rintro e4 w4 ⟨rfl, hw4⟩; have HS4 := Aside0.mk (HRS.out _ hw4); clear hw4))
          case inl h =>
            rw [← HREST.out.2]
            go_loopg [54] rest.length (fun k v54 w' => ∃ j : Nat, v54 = .int .i64 (j : Int) ∧ Aside0 (j + k = rest.length) ∧ Aside0 (St g0 h0 w0 w' (w0.heap.size + 1) (run R (l1, o1) (rest.take j)) (p + j)))
            case atStart => exact ⟨0, by first | rfl | (simp; done), ⟨by omega⟩, HS4⟩
            case round =>
              clear HS4
              obtain ⟨j, rfl, HK, HS⟩ := hrel
              by_cases hi : j < rest.length
              · exfalso
                have := HREST.out.2; have := HC.out.1; omega
              · have hin : j = rest.length := by have := HK.out; omega
                subst hin
                have c0 : decide ((rest.length : Int) < (rest.length : Int)) = false := decide_eq_false (by omega)
                have hS := HS.out
                rw [List.take_length, HREST.out.1, HE.out, run_split] at hS
                have HB := Aside0.mk hS.1
                have hl2 := hS.2.2.2
                obtain ⟨AO, cO, hle, hC, hby⟩ := st_out hS
                rw [← HF.out] at hl2 hle hC hby
                rw [List.length_drop] at hl2
                have HLE := Aside0.mk (show F.length ≤ 500000000 by have := HP.out.1; have := HP.out.2.2.2.2.2.2; have := HREST.out.2; omega)
                have HBY := Aside0.mk hby
                have HC2 := Aside0.mk (And.intro hC hle)
                clear hS hC hle hby hi HS HF hl2
                go_wp2_with (first
                  | (go_at_call 24; go_must (refine (HBY.out _ rfl).mono ?_; rintro e2 w2 ⟨rfl, rfl⟩))
                  | (go_at_call 23; go_must (refine (copy AO F.length cO F _ HC2.out.1 HC2.out.2 (by have := HLE.out; omega)).mono ?_; rintro e3 w5 ⟨v, rfl, hR, hB3⟩; have HR5 := Aside0.mk hR; have HB5 := Aside0.mk hB3; clear hR hB3)))
                go_ret
                exact ⟨v, rfl, Kd.R_lower HR5.out HB.out.size, below_then HB.out HB.out.size HB5.out⟩
          case inr h =>
            rw [show Option.map (fun x => x.add (p * 7)) A = A3 from by rw [HA3.out, if_neg h]; rfl]
            rw [← HREST.out.2]
            go_loopg [54] rest.length (fun k v54 w' => ∃ j : Nat, v54 = .int .i64 (j : Int) ∧ Aside0 (j + k = rest.length) ∧ Aside0 (St g0 h0 w0 w' (w0.heap.size + 1) (run R (l1, o1) (rest.take j)) (p + j)))
            case atStart => exact ⟨0, by first | rfl | (simp; done), ⟨by omega⟩, HS4⟩
            case round =>
              clear HS4
              obtain ⟨j, rfl, HK, HS⟩ := hrel
              by_cases hi : j < rest.length
              · have hi3 : j < rest.length := hi
                obtain ⟨ad, e, x0, x1, x2, x3, x4, x5, x6⟩ := at_op HR3.out (j : Int) (by omega) (by omega)
                cases e
                rw [Int.toNat_natCast] at x0 x1 x2 x3 x4 x5 x6
                have hB := HS.out.1
                replace x0 := (hB.cell (World.block_lt_of_cell? w0 _ x0)).trans x0
                replace x1 := (hB.cell (World.block_lt_of_cell? w0 _ x1)).trans x1
                replace x2 := (hB.cell (World.block_lt_of_cell? w0 _ x2)).trans x2
                replace x3 := (hB.cell (World.block_lt_of_cell? w0 _ x3)).trans x3
                replace x4 := (hB.cell (World.block_lt_of_cell? w0 _ x4)).trans x4
                replace x5 := (hB.cell (World.block_lt_of_cell? w0 _ x5)).trans x5
                replace x6 := (hB.cell (World.block_lt_of_cell? w0 _ x6)).trans x6
                have hgo : Td2.Good (rdOp rest (j : Int)) := by
                  refine HG3.out _ ?_
                  simp [rdOp, List.getD_eq_getElem?_getD, hi3]
                have HTD : Aside0 (∀ W, Below wr.heap.size wr W → Calls Tryd.prog 22 #[.pointer (some ⟨w0.heap.size + 1, 0, none⟩), opV (rdOp rest (j : Int))] W fun e w' => e = .returned (.tuple #[]) ∧ St g0 h0 w0 w' (w0.heap.size + 1) (run R (l1, o1) (rest.take (j + 1))) (p + j + 1)) := Aside0.mk (by
                  intro W hW
                  rw [run_snoc R _ rest j hi3]
                  exact Go.Proofs.YtdggjpdhbailpaaDoor.St.step (HP.out.2.2.2.2.1 _ hgo) HP.out.2.2.2.2.2.1 (HS.out.below hW) (by have := HP.out.1; have := HP.out.2.1; have := HP.out.2.2.2.2.2.2; have := HREST.out.2; omega))
                have HI2 := Aside0.mk hi
                have c0 : decide ((j : Int) < (rest.length : Int)) = true := decide_eq_true (by omega)
                have c1 := eq_true (show (0 : Int) ≤ (j : Int) by omega)
                have c2 := eq_true (show (j : Int) < (rest.length : Int) by omega)
                have c3 : IntKind.i64.wrap ((j : Int) + 1) = ((j + 1 : Nat) : Int) := by have := HP.out.1; have := HP.out.2.1; have := HREST.out.2; rw [IntKind.wrap_i64]; omega
                have c4 : wrap64 ((j : Int) + 1) = ((j + 1 : Nat) : Int) := by have := HP.out.1; have := HP.out.2.1; have := HREST.out.2; unfold wrap64; omega
                clear hB hi hgo
                go_wp2_with (go_at_call 22; go_must (refine (HTD.out _ (below_alloc (Below.refl _ _) _)).mono ?_; rintro e2 w2 ⟨rfl, hS2⟩; have HS2 := Aside0.mk hS2; clear hS2))
                clear hi3
                go_roundg (rest.length - (j + 1))
                case measure => have := HK.out; have := HI2.out; omega
                case rel => exact ⟨j + 1, by first | rfl | (simp; done) | (simp [c4]; done), ⟨by have := HI2.out; omega⟩, HS2⟩
              · have hin : j = rest.length := by have := HK.out; omega
                subst hin
                have c0 : decide ((rest.length : Int) < (rest.length : Int)) = false := decide_eq_false (by omega)
                have hS := HS.out
                rw [List.take_length, HREST.out.1, HE.out, run_split] at hS
                have HB := Aside0.mk hS.1
                have hl2 := hS.2.2.2
                obtain ⟨AO, cO, hle, hC, hby⟩ := st_out hS
                rw [← HF.out] at hl2 hle hC hby
                rw [List.length_drop] at hl2
                have HLE := Aside0.mk (show F.length ≤ 500000000 by have := HP.out.1; have := HP.out.2.2.2.2.2.2; have := HREST.out.2; omega)
                have HBY := Aside0.mk hby
                have HC2 := Aside0.mk (And.intro hC hle)
                clear hS hC hle hby hi HS HF hl2
                go_wp2_with (first
                  | (go_at_call 24; go_must (refine (HBY.out _ rfl).mono ?_; rintro e2 w2 ⟨rfl, rfl⟩))
                  | (go_at_call 23; go_must (refine (copy AO F.length cO F _ HC2.out.1 HC2.out.2 (by have := HLE.out; omega)).mono ?_; rintro e3 w5 ⟨v, rfl, hR, hB3⟩; have HR5 := Aside0.mk hR; have HB5 := Aside0.mk hB3; clear hR hB3)))
                go_ret
                exact ⟨v, rfl, Kd.R_lower HR5.out HB.out.size, below_then HB.out HB.out.size HB5.out⟩

end Go.Proofs.YtdggjpdhbailpaaDoor.Ts
