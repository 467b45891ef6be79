/-
  DERIVED. GIVEN WITH THE SEED: THE CARDS: each row of YbulkgcsmDoorRows.lean that lists a variable, with what it lists TIED to the program's text (the seventh form; the later family's looks); each row that meets fmt, with fmt's text TOLD by the authors' own Lean function (tested against real Go, not proved from fmt's source: count such statements apart). THE CARD IS WHAT COUNTS. Prove the row's statement (the work); the ties are given (YbulkgcsmDoorTie.lean); close each card by the builder's one call (the guide's Derived/Test/ToyasCard.lean, 'card_holds'). Laid BY PROGRAM, IN A SANDBOX (cutbox-door.mjs). By AI agents, Wed Nov 11 2026. No macro, syntax, notation, axiom, sorry.
-/
import Derived.Test.YbulkgcsmDoorRows
import GoSem.ClaimSeven
namespace Go.Proofs.YbulkgcsmDoor
namespace Rows

/-- THE TIED CARD OF 'decimal.LawS8969BWhole'. -/
def lawS8969BWholeCard : Claim7 := { stood := { row := lawS8969BWholeRow, standIns := [], harness := (true, "7188d2226e9610488638e20d0ec4c707830baf69fa2ee7ac5bc8a41f2d963652"), looks := false }, kinds := [], alts := [], laidByText := true, laidKinds := [.data, .data, .data], laidTests := true, laidLooks := .later }
def LawS8969BWholeCardSaid : Prop := Claim7.holds Ybad.pinned (.plain (OpenSpec.ofChange lawS8969BWholeSpec)) lawS8969BWholeCard
end Rows
end Go.Proofs.YbulkgcsmDoor
