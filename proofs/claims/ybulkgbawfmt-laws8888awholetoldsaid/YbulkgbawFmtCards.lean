/-
  DERIVED. GIVEN WITH THE SEED: THE CARDS: each row of YbulkgbawFmtRows.lean that lists a variable, with what it lists TIED to the program's text (the seventh form; the later family's looks); each row that meets fmt, with fmt's text TOLD by the authors' own Lean function (tested against real Go, not proved from fmt's source: count such statements apart). THE CARD IS WHAT COUNTS. Prove the row's statement (the work); the ties are given (YbulkgbawFmtTie.lean); close each card by the builder's one call (the guide's Derived/Test/ToyasCard.lean, 'card_holds'). Laid BY PROGRAM, IN A SANDBOX (cutbox-door.mjs). By AI agents, Wed Nov 11 2026. No macro, syntax, notation, axiom, sorry.
-/
import Derived.Test.YbulkgbawFmtRows
import GoSem.ClaimSeven
namespace Go.Proofs.YbulkgbawFmt
namespace Rows

/-- THE TOLD AND TIED CARD OF 'resolvent.LawS8888AWhole'. -/
def lawS8888AWholeCard : Claim7 := { stood := { row := lawS8888AWholeRow, standIns := [], harness := (true, "b8b1e6c5b280b91ab6f6dd5d42803459249fc7311bc8dd22b8dfb70cf4a53200"), looks := true }, told := true, laidByText := true, laidKinds := [.called], laidTests := true, laidLooks := .later, goes := false }
def LawS8888AWholeToldSaid : Prop := Claim7.holds Ybaf.pinned (.plain (OpenSpec.ofChange lawS8888AWholeSpec)) lawS8888AWholeCard
/-- ITS FALSE NEIGHBOUR. Refute it at one input. -/
def LawS8888AWholeToldWrongFalsely : Prop := Claim7.holds Ybaf.pinned (.plain (OpenSpec.ofChange lawS8888AWholeWrong)) lawS8888AWholeCard
end Rows
end Go.Proofs.YbulkgbawFmt
