/-
  DERIVED. GIVEN WITH THE SEED: THE CARDS: each row of YtdggjpdhbailpaaDoorRows.lean that lists a variable, with what it lists TIED to the program's text (the seventh form; the later family's looks); each row that meets fmt, with fmt's text TOLD by the authors' own Lean function (tested against real Go, not proved from fmt's source: count such statements apart). THE CARD IS WHAT COUNTS. Prove the row's statement (the work); the ties are given (YtdggjpdhbailpaaDoorTie.lean); close each card by the builder's one call (the guide's Derived/Test/ToyasCard.lean, 'card_holds'). Laid BY PROGRAM, IN A SANDBOX (cutbox-door.mjs). By AI agents, Wed Nov 11 2026. No macro, syntax, notation, axiom, sorry.
-/
import Derived.Test.YtdggjpdhbailpaaDoorRows
import GoSem.ClaimSeven
namespace Go.Proofs.YtdggjpdhbailpaaDoor
namespace Rows

/-- THE TIED CARD OF 'laws.FnDefBytes'. -/
def fnDefBytesCard : Claim7 := { stood := { row := fnDefBytesRow, standIns := [], harness := (true, "7bbfdbc66b74f5a3e235835eefd0a4b083f25e0a6b2cc4995ca1cd922cc6d51e"), looks := false }, kinds := [], alts := [], laidByText := true, laidKinds := [.data, .data, .data, .data, .pinned, .pinned], laidTests := true, laidLooks := .later }
def FnDefBytesCardSaid : Prop := Claim7.holds Tryd.pinned (.plain (OpenSpec.ofChange fnDefBytesSpec)) fnDefBytesCard

/-- THE TIED CARD OF 'laws.FnTextAscii'. -/
def fnTextAsciiCard : Claim7 := { stood := { row := fnTextAsciiRow, standIns := [], harness := (true, "7bbfdbc66b74f5a3e235835eefd0a4b083f25e0a6b2cc4995ca1cd922cc6d51e"), looks := false }, kinds := [], alts := [], laidByText := true, laidKinds := [.data, .data, .data, .data, .data, .pinned, .pinned, .pinned], laidTests := true, laidLooks := .later }
def FnTextAsciiCardSaid : Prop := Claim7.holds Tryd.pinned (.plain (OpenSpec.ofChange fnTextAsciiSpec)) fnTextAsciiCard

/-- THE TIED CARD OF 'laws.FnTextSnapshot'. -/
def fnTextSnapshotCard : Claim7 := { stood := { row := fnTextSnapshotRow, standIns := [], harness := (true, "7bbfdbc66b74f5a3e235835eefd0a4b083f25e0a6b2cc4995ca1cd922cc6d51e"), looks := false }, kinds := [], alts := [], laidByText := true, laidKinds := [.data, .data, .data, .data, .data, .pinned, .pinned, .pinned], laidTests := true, laidLooks := .later }
def FnTextSnapshotCardSaid : Prop := Claim7.holds Tryd.pinned (.plain (OpenSpec.ofChange fnTextSnapshotSpec)) fnTextSnapshotCard

/-- THE SECOND FORM's CARD OF 'laws.FnDefBytes'. -/
def fnDefBytesUptoCard : Claim7 := { stood := { row := fnDefBytesUptoRow, standIns := [], harness := (true, "7bbfdbc66b74f5a3e235835eefd0a4b083f25e0a6b2cc4995ca1cd922cc6d51e"), looks := false }, kinds := [], alts := [], laidByText := true, laidKinds := [.data, .data, .data, .data, .pinned, .pinned], laidTests := true, laidLooks := .later }
def FnDefBytesUptoCardSaid : Prop := Claim7.holds Tryd.pinned (.plain (OpenSpec.upto fnDefBytesSpec)) fnDefBytesUptoCard

/-- THE SECOND FORM's CARD OF 'laws.FnTextAscii'. -/
def fnTextAsciiUptoCard : Claim7 := { stood := { row := fnTextAsciiUptoRow, standIns := [], harness := (true, "7bbfdbc66b74f5a3e235835eefd0a4b083f25e0a6b2cc4995ca1cd922cc6d51e"), looks := false }, kinds := [], alts := [], laidByText := true, laidKinds := [.data, .data, .data, .data, .data, .pinned, .pinned, .pinned], laidTests := true, laidLooks := .later }
def FnTextAsciiUptoCardSaid : Prop := Claim7.holds Tryd.pinned (.plain (OpenSpec.upto fnTextAsciiSpec)) fnTextAsciiUptoCard

/-- THE SECOND FORM's CARD OF 'laws.FnTextSnapshot'. -/
def fnTextSnapshotUptoCard : Claim7 := { stood := { row := fnTextSnapshotUptoRow, standIns := [], harness := (true, "7bbfdbc66b74f5a3e235835eefd0a4b083f25e0a6b2cc4995ca1cd922cc6d51e"), looks := false }, kinds := [], alts := [], laidByText := true, laidKinds := [.data, .data, .data, .data, .data, .pinned, .pinned, .pinned], laidTests := true, laidLooks := .later }
def FnTextSnapshotUptoCardSaid : Prop := Claim7.holds Tryd.pinned (.plain (OpenSpec.upto fnTextSnapshotSpec)) fnTextSnapshotUptoCard
end Rows
end Go.Proofs.YtdggjpdhbailpaaDoor
