/-
  No cell of these rows narrows 'for every input' (looked for: loops, veiled, ifaces, maps, wideKeys, modest, calm, conditions, laid).
  DERIVED. THE GIVEN ROWS OF THIS SEAT. 1 by the template 'for every input the law returns true; each argument reads behind the call as it read before'; 0 by the template 'total and deterministic' (their statements: YbulkgbawTotals.lean).
  GIVEN WITH THE SEED: the statements are not yours to turn. If you find one false, say at which input.
  Laid BY PROGRAM, IN A SANDBOX (cutbox-rows.mjs): the forced cells as the released guide's own fill.sh prints them over the translation a000de00e71ad574… (all of the seat's roots in one cut). By AI agents, Wed Nov 11 2026. No macro, syntax, notation, axiom, sorry.
-/
import Derived.Test.YbulkgbawChecked
import GoSem.Claim
import GoSem.ClaimJoined
import GoSem.ClaimMapViews
import Derived.JoinedTies
import Derived.KernelRfl
namespace Go.Proofs.Ybulkgbaw
/- THE CELL 'sum', in the pinned program and in every row, IS THE sha256 OF THE DUMP (.gsa) THAT YbulkgbawProg.lean LOADS. Nothing in Lean hashes anything: it is a label: what it is worth is what the hold of that sum in a sandbox is worth. -/
noncomputable def Yba.pinned : Pinned := { name := "ybulkgbaw", sum := "a000de00e71ad5748cbdfa90477ddd1630260c3bd7c408a81a395a8405acda6c", checked := Yba.checked }
namespace Rows
def none {H : Type} : Left H := { results := [], args := [] }

/-- 'resolvent.LawS8888CWhole': WHATEVER THE INPUT: true; the input reads as it did. -/
def lawS8888CWholeSpec : ChangeSpec := { name := "lawS8888CWhole", fn := fun _ => fun
  | [d1, d2] => { results := [.lit (.bool true)], args := [d1, d2] }
  | _ => none }
def lawS8888CWholeRow : OpenClaim := { program := "ybulkgbaw", sum := "a000de00e71ad5748cbdfa90477ddd1630260c3bd7c408a81a395a8405acda6c", func := "example.com/resolvent/resolvent.LawS8888CWhole", spec := "lawS8888CWhole", apart := false }
def LawS8888CWholeSaid : Prop := lawS8888CWholeRow.holds Yba.pinned (OpenSpec.ofChange lawS8888CWholeSpec)

/-- ITS FALSE NEIGHBOUR: 'it returns false'. Refute it at one input. -/
def lawS8888CWholeWrong : ChangeSpec := { name := "lawS8888CWhole", fn := fun _ => fun
  | [d1, d2] => { results := [.lit (.bool false)], args := [d1, d2] }
  | _ => none }
def LawS8888CWholeWrongFalsely : Prop := lawS8888CWholeRow.holds Yba.pinned (OpenSpec.ofChange lawS8888CWholeWrong)

end Rows
end Go.Proofs.Ybulkgbaw
