/-
  No cell of these rows narrows 'for every input' (looked for: loops, veiled, ifaces, maps, wideKeys, modest, calm, conditions, laid).
  DERIVED. THE GIVEN ROWS OF THIS SEAT. 1 by the template 'for every input the law returns true; each argument reads behind the call as it read before'; 0 by the template 'total and deterministic' (their statements: YbulkgctaTotals.lean).
  GIVEN WITH THE SEED: the statements are not yours to turn. If you find one false, say at which input.
  Laid BY PROGRAM, IN A SANDBOX (cutbox-rows.mjs): the forced cells as the released guide's own fill.sh prints them over the translation 446a6046cb432a6c… (all of the seat's roots in one cut). By AI agents, Wed Nov 11 2026. No macro, syntax, notation, axiom, sorry.
-/
import Derived.Test.YbulkgctaChecked
import GoSem.Claim
import GoSem.ClaimJoined
import GoSem.ClaimMapViews
import Derived.JoinedTies
import Derived.KernelRfl
namespace Go.Proofs.Ybulkgcta
/- THE CELL 'sum', in the pinned program and in every row, IS THE sha256 OF THE DUMP (.gsa) THAT YbulkgctaProg.lean LOADS. Nothing in Lean hashes anything: it is a label: what it is worth is what the hold of that sum in a sandbox is worth. -/
noncomputable def Yba.pinned : Pinned := { name := "ybulkgcta", sum := "446a6046cb432a6c54f7aba9fc1f0e6893dacb0de6a0c97c0cbd507bcc2e1722", checked := Yba.checked }
namespace Rows
def none {H : Type} : Left H := { results := [], args := [] }

/-- 'namestring.LawS8970AWhole': WHATEVER THE INPUT: true; the input reads as it did. -/
def lawS8970AWholeSpec : ChangeSpec := { name := "lawS8970AWhole", fn := fun _ => fun
  | [d] => { results := [.lit (.bool true)], args := [d] }
  | _ => none }
def lawS8970AWholeRow : OpenClaim := { program := "ybulkgcta", sum := "446a6046cb432a6c54f7aba9fc1f0e6893dacb0de6a0c97c0cbd507bcc2e1722", func := "example.com/namestring/namestring.LawS8970AWhole", spec := "lawS8970AWhole", apart := false }
def LawS8970AWholeSaid : Prop := lawS8970AWholeRow.holds Yba.pinned (OpenSpec.ofChange lawS8970AWholeSpec)

/-- ITS FALSE NEIGHBOUR: 'it returns false'. Refute it at one input. -/
def lawS8970AWholeWrong : ChangeSpec := { name := "lawS8970AWhole", fn := fun _ => fun
  | [d] => { results := [.lit (.bool false)], args := [d] }
  | _ => none }
def LawS8970AWholeWrongFalsely : Prop := lawS8970AWholeRow.holds Yba.pinned (OpenSpec.ofChange lawS8970AWholeWrong)

end Rows
end Go.Proofs.Ybulkgcta
