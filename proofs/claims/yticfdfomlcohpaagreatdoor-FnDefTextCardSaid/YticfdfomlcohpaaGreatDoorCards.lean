/-
  DERIVED. GIVEN WITH THE SEED: THE CARDS: each row of YticfdfomlcohpaaGreatDoorRows.lean that lists a variable, with what it lists TIED to the program's text (the seventh form; the later family's looks); each row that meets fmt, with fmt's text TOLD by the authors' own Lean function (tested against real Go, not proved from fmt's source: count such statements apart). THE CARD IS WHAT COUNTS. Prove the row's statement (the work); the ties are given (YticfdfomlcohpaaGreatDoorTie.lean); close each card by the builder's one call (the guide's Derived/Test/ToyasCard.lean, 'card_holds'). Laid BY PROGRAM, IN A SANDBOX (cutbox-door.mjs). By AI agents, Wed Nov 11 2026. No macro, syntax, notation, axiom, sorry.
-/
import Derived.Test.YticfdfomlcohpaaGreatDoorRows
import GoSem.ClaimSeven
namespace Go.Proofs.YticfdfomlcohpaaGreatDoor
namespace Rows

/-- THE TIED CARD OF 'laws.FnDefText'. -/
def fnDefTextCard : Claim7 := { stood := { row := fnDefTextRow, standIns := [], harness := (true, "3962194b714ff7535ea2cb364b8797701ef6c3eaead2e7bb0e5a2e22889eea6f"), looks := true }, kinds := [], alts := [], laidByText := true, laidKinds := [.data, .data, .data, .data, .pinned, .pinned], laidTests := true, laidLooks := .later }
def FnDefTextCardSaid : Prop := Claim7.holds Tryz.pinned (.plain (OpenSpec.ofChange fnDefTextSpec)) fnDefTextCard

/-- THE TIED CARD OF 'laws.FnTextTokens'. -/
def fnTextTokensCard : Claim7 := { stood := { row := fnTextTokensRow, standIns := [], harness := (true, "3962194b714ff7535ea2cb364b8797701ef6c3eaead2e7bb0e5a2e22889eea6f"), looks := true }, kinds := [], alts := [], laidByText := true, laidKinds := [.data, .data, .data, .data, .sentinel, .sentinel, .sentinel, .pinned], laidTests := true, laidLooks := .later }
def FnTextTokensCardSaid : Prop := Claim7.holds Tryz.pinned (.plain (OpenSpec.ofChange fnTextTokensSpec)) fnTextTokensCard

/-- THE SECOND FORM's CARD OF 'laws.FnDefText'. -/
def fnDefTextUptoCard : Claim7 := { stood := { row := fnDefTextUptoRow, standIns := [], harness := (true, "3962194b714ff7535ea2cb364b8797701ef6c3eaead2e7bb0e5a2e22889eea6f"), looks := true }, kinds := [], alts := [], laidByText := true, laidKinds := [.data, .data, .data, .data, .pinned, .pinned], laidTests := true, laidLooks := .later }
def FnDefTextUptoCardSaid : Prop := Claim7.holds Tryz.pinned (.plain (OpenSpec.upto fnDefTextSpec)) fnDefTextUptoCard

/-- THE SECOND FORM's CARD OF 'laws.FnTextTokens'. -/
def fnTextTokensUptoCard : Claim7 := { stood := { row := fnTextTokensUptoRow, standIns := [], harness := (true, "3962194b714ff7535ea2cb364b8797701ef6c3eaead2e7bb0e5a2e22889eea6f"), looks := true }, kinds := [], alts := [], laidByText := true, laidKinds := [.data, .data, .data, .data, .sentinel, .sentinel, .sentinel, .pinned], laidTests := true, laidLooks := .later }
def FnTextTokensUptoCardSaid : Prop := Claim7.holds Tryz.pinned (.plain (OpenSpec.upto fnTextTokensSpec)) fnTextTokensUptoCard
end Rows
end Go.Proofs.YticfdfomlcohpaaGreatDoor
