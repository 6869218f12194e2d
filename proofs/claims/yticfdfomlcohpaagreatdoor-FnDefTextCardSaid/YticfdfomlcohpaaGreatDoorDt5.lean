/- The walks of Marshal and DefMarshal, and of DefText, at each kind but floats. -/
import Derived.Test.YticfdfomlcohpaaGreatDoorDt4
import Derived.Test.YticfdfomlcohpaaGreatDoorDbp
namespace Go.Proofs.YticfdfomlcohpaaGreatDoor.Dt5
open Go.RowKit Go.Proofs.YticfdfomlcohpaaGreatDoorW.PrintWords Go.Proofs.YticfdfomlcohpaaGreatDoorW.PrintLast Go.Proofs.YticfdfomlcohpaaGreatDoorW.PrintMore
open Go.Proofs.YticfdfomlcohpaaGreatDoor.Db Go.Proofs.YticfdfomlcohpaaGreatDoor.Dt Go.Proofs.YticfdfomlcohpaaGreatDoor.Dt4

def Tab (w : World) : Prop := Lib.TabIs Tryz.prog w "internal/strconv.uint64pow10" .u64 Lib.pow10Tab
theorem Tab.on {w w' : World} (h : Tab w) (hb : Below w.heap.size w w') : Tab w' := Lib.tabBelow_of_tabIs h w' hb

set_option maxHeartbeats 1000000 in
theorem defmarshal_of (K : Int) (B : Bool) (I U F : Int) (S : ByteArray) (f : Int) (vv : Value) (r : ByteArray) (w : World) (ht : Tab w)
    (hg : ∀ W, Calls Tryz.prog 24 #[V K B I U F S es] W fun e w' => e = .returned vv ∧ Below W.heap.size W w')
    (hm : ∀ W ev, Tab W → Calls Tryz.prog 23 #[vv, ev, .int .i8 (IntKind.i8.wrap K), .int .i64 f] W fun e w' => e = .returned (.tuple #[.string r, .nilIface]) ∧ Below W.heap.size W w') :
    Calls Tryz.prog 9 #[V K B I U F S es, .int .i64 f, .slice none 0 0, .slice none 0 0] w fun e w' =>
      e = .returned (.tuple #[.string r, .bool true]) ∧ Below w.heap.size w w' := by
  have HG := Aside0.mk hg
  have HM := Aside0.mk hm
  have HT := Aside0.mk ht
  clear hg hm ht
  go_enter Tryz.func9, Tryz.ntmps9
  go_wp2_with fail
  go_quiet ((first | (go_at_call 21; exact Calls.quiet_of_same (enum_nil _)) | (go_at_call 22; exact Calls.quiet_of_same (byn_nil _ _))))
  go_wp2_with fail
  go_region_with (first
    | (go_at_call 24; go_must (refine (HG.out _).mono ?_; rintro e w1 ⟨rfl, hb⟩; obtain ⟨hc1, _⟩ := bcell hb; have hbW := (pw_below_drewN (below_alloc (Below.refl _ _) _) _).trans (hb.mono (by simp))))
    | (go_at_call 23; go_must (refine (HM.out _ _ (HT.out.on hbW)).mono ?_; rintro e w2 ⟨rfl, hb2⟩)))
  all_goals go_wp2
  all_goals go_ret2
  all_goals exact ⟨rfl, hbW.trans (hb2.mono hbW.size)⟩

end Go.Proofs.YticfdfomlcohpaaGreatDoor.Dt5
