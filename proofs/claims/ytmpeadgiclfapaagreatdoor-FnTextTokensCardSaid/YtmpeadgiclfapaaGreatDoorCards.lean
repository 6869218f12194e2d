/-
  DERIVED. GIVEN WITH THE SEED: THE CARDS: each row of YtmpeadgiclfapaaGreatDoorRows.lean that lists a variable, with what it lists TIED to the program's text (the seventh form; the later family's looks); each row that meets fmt, with fmt's text TOLD by the authors' own Lean function (tested against real Go, not proved from fmt's source: count such statements apart). THE CARD IS WHAT COUNTS. Prove the row's statement (the work); the ties are given (YtmpeadgiclfapaaGreatDoorTie.lean); close each card by the builder's one call (the guide's Derived/Test/ToyasCard.lean, 'card_holds'). Laid BY PROGRAM, IN A SANDBOX (cutbox-door.mjs). By AI agents, Wed Nov 11 2026. No macro, syntax, notation, axiom, sorry.
-/
import Derived.Test.YtmpeadgiclfapaaGreatDoorRows
import GoSem.ClaimSeven
namespace Go.Proofs.YtmpeadgiclfapaaGreatDoor
namespace Rows

/-- THE TIED CARD OF 'laws.FnTextTokens'. -/
def fnTextTokensCard : Claim7 := { stood := { row := fnTextTokensRow, standIns := [], harness := (true, "28615a2db44e7d003b43793d1be942ca3715fdf9ad2d56add06fb3e195704daa"), looks := true }, kinds := [], alts := [], laidByText := true, laidKinds := [.data, .data, .data, .data, .sentinel, .sentinel, .sentinel, .pinned], laidTests := true, laidLooks := .later }
def FnTextTokensCardSaid : Prop := Claim7.holds Tryz.pinned (.plain (OpenSpec.ofChange fnTextTokensSpec)) fnTextTokensCard

/-- THE SECOND FORM's CARD OF 'laws.FnTextTokens'. -/
def fnTextTokensUptoCard : Claim7 := { stood := { row := fnTextTokensUptoRow, standIns := [], harness := (true, "28615a2db44e7d003b43793d1be942ca3715fdf9ad2d56add06fb3e195704daa"), looks := true }, kinds := [], alts := [], laidByText := true, laidKinds := [.data, .data, .data, .data, .sentinel, .sentinel, .sentinel, .pinned], laidTests := true, laidLooks := .later }
def FnTextTokensUptoCardSaid : Prop := Claim7.holds Tryz.pinned (.plain (OpenSpec.upto fnTextTokensSpec)) fnTextTokensUptoCard
end Rows
end Go.Proofs.YtmpeadgiclfapaaGreatDoor
