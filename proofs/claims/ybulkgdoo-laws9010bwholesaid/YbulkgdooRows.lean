/-
  No cell of these rows narrows 'for every input' (looked for: loops, veiled, ifaces, maps, wideKeys, modest, calm, conditions, laid).
  DERIVED. THE GIVEN ROWS OF THIS SEAT. 3 by the template 'for every input the law returns true; each argument reads behind the call as it read before'; 0 by the template 'total and deterministic' (their statements: YbulkgdooTotals.lean).
  GIVEN WITH THE SEED: the statements are not yours to turn. If you find one false, say at which input.
  Laid BY PROGRAM, IN A SANDBOX (cutbox-rows.mjs): the forced cells as the released guide's own fill.sh prints them over the translation a31d0bf2a05711e3… (all of the seat's roots in one cut). By AI agents, Wed Nov 11 2026. No macro, syntax, notation, axiom, sorry.
-/
import Derived.Test.YbulkgdooChecked
import GoSem.Claim
import GoSem.ClaimJoined
import GoSem.ClaimMapViews
import Derived.JoinedTies
import Derived.KernelRfl
namespace Go.Proofs.Ybulkgdoo
/- THE CELL 'sum', in the pinned program and in every row, IS THE sha256 OF THE DUMP (.gsa) THAT YbulkgdooProg.lean LOADS. Nothing in Lean hashes anything: it is a label: what it is worth is what the hold of that sum in a sandbox is worth. -/
noncomputable def Yba.pinned : Pinned := { name := "ybulkgdoo", sum := "a31d0bf2a05711e3b61125c6a874d035fbb6eae5c55e583c89c8fce1f4693cbc", checked := Yba.checked }
namespace Rows
def none {H : Type} : Left H := { results := [], args := [] }

/-- 'causeline.LawS9010AWhole': WHATEVER THE INPUT: true; the input reads as it did. -/
def lawS9010AWholeSpec : ChangeSpec := { name := "lawS9010AWhole", fn := fun _ => fun
  | [d1, d2, d3] => { results := [.lit (.bool true)], args := [d1, d2, d3] }
  | _ => none }
def lawS9010AWholeRow : OpenClaim := { program := "ybulkgdoo", sum := "a31d0bf2a05711e3b61125c6a874d035fbb6eae5c55e583c89c8fce1f4693cbc", func := "example.com/causeline/causeline.LawS9010AWhole", spec := "lawS9010AWhole", unfollowed := true, recurses := true, plainKeys := false, apart := false }
def LawS9010AWholeSaid : Prop := lawS9010AWholeRow.holds Yba.pinned (OpenSpec.ofChange lawS9010AWholeSpec)

/-- ITS FALSE NEIGHBOUR: 'it returns false'. Refute it at one input. -/
def lawS9010AWholeWrong : ChangeSpec := { name := "lawS9010AWhole", fn := fun _ => fun
  | [d1, d2, d3] => { results := [.lit (.bool false)], args := [d1, d2, d3] }
  | _ => none }
def LawS9010AWholeWrongFalsely : Prop := lawS9010AWholeRow.holds Yba.pinned (OpenSpec.ofChange lawS9010AWholeWrong)

/-- 'causeline.LawS9010BWhole': WHATEVER THE INPUT: true; the input reads as it did. -/
def lawS9010BWholeSpec : ChangeSpec := { name := "lawS9010BWhole", fn := fun _ => fun
  | [d1, d2] => { results := [.lit (.bool true)], args := [d1, d2] }
  | _ => none }
def lawS9010BWholeRow : OpenClaim := { program := "ybulkgdoo", sum := "a31d0bf2a05711e3b61125c6a874d035fbb6eae5c55e583c89c8fce1f4693cbc", func := "example.com/causeline/causeline.LawS9010BWhole", spec := "lawS9010BWhole", unfollowed := true, recurses := true, plainKeys := false, apart := false }
def LawS9010BWholeSaid : Prop := lawS9010BWholeRow.holds Yba.pinned (OpenSpec.ofChange lawS9010BWholeSpec)

/-- ITS FALSE NEIGHBOUR: 'it returns false'. Refute it at one input. -/
def lawS9010BWholeWrong : ChangeSpec := { name := "lawS9010BWhole", fn := fun _ => fun
  | [d1, d2] => { results := [.lit (.bool false)], args := [d1, d2] }
  | _ => none }
def LawS9010BWholeWrongFalsely : Prop := lawS9010BWholeRow.holds Yba.pinned (OpenSpec.ofChange lawS9010BWholeWrong)

/-- 'causeline.LawS9010CWhole': WHATEVER THE INPUT: true; the input reads as it did. -/
def lawS9010CWholeSpec : ChangeSpec := { name := "lawS9010CWhole", fn := fun _ => fun
  | [d1, d2, d3, d4] => { results := [.lit (.bool true)], args := [d1, d2, d3, d4] }
  | _ => none }
def lawS9010CWholeRow : OpenClaim := { program := "ybulkgdoo", sum := "a31d0bf2a05711e3b61125c6a874d035fbb6eae5c55e583c89c8fce1f4693cbc", func := "example.com/causeline/causeline.LawS9010CWhole", spec := "lawS9010CWhole", unfollowed := true, recurses := true, plainKeys := false, apart := false }
def LawS9010CWholeSaid : Prop := lawS9010CWholeRow.holds Yba.pinned (OpenSpec.ofChange lawS9010CWholeSpec)

/-- ITS FALSE NEIGHBOUR: 'it returns false'. Refute it at one input. -/
def lawS9010CWholeWrong : ChangeSpec := { name := "lawS9010CWhole", fn := fun _ => fun
  | [d1, d2, d3, d4] => { results := [.lit (.bool false)], args := [d1, d2, d3, d4] }
  | _ => none }
def LawS9010CWholeWrongFalsely : Prop := lawS9010CWholeRow.holds Yba.pinned (OpenSpec.ofChange lawS9010CWholeWrong)

end Rows
end Go.Proofs.Ybulkgdoo
