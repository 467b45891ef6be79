/-
  NARROWER THAN 'FOR EVERY INPUT', by the rows' own cells (each row's printed sentence says how): LawS8888AWhole: ifaces, laid.
  DERIVED. THE GIVEN ROWS OF THIS SEAT. 1 by the template 'for every input the law returns true; each argument reads behind the call as it read before'; 0 by the template 'total and deterministic' (their statements: YbulkgbawFmtTotals.lean).
  GIVEN WITH THE SEED: the statements are not yours to turn. If you find one false, say at which input.
  Laid BY PROGRAM, IN A SANDBOX (cutbox-rows.mjs): the forced cells as the released guide's own fill.sh prints them over the translation 8ffa5af3757430c6… (all of the seat's roots in one cut). By AI agents, Wed Nov 11 2026. No macro, syntax, notation, axiom, sorry.
-/
import Derived.Test.YbulkgbawFmtChecked
import GoSem.Claim
import GoSem.ClaimJoined
import GoSem.ClaimMapViews
import Derived.JoinedTies
import Derived.KernelRfl
namespace Go.Proofs.YbulkgbawFmt
/- THE CELL 'sum', in the pinned program and in every row, IS THE sha256 OF THE DUMP (.gsa) THAT YbulkgbawFmtProg.lean LOADS. Nothing in Lean hashes anything: it is a label: what it is worth is what the hold of that sum in a sandbox is worth. -/
noncomputable def Ybaf.pinned : Pinned := { name := "ybulkgbawfmt", sum := "8ffa5af3757430c62e18582c263219e57ae83b988c0ada69725851f5f3020f49", checked := Ybaf.checked }
namespace Rows
def none {H : Type} : Left H := { results := [], args := [] }

/- WHAT THE LISTED PACKAGE-LEVEL VARIABLES READ AS WHEN THE CALL BEGINS. Each datum BY PROGRAM (the guide's laid-datum.mjs) off the statement by which the dump's own 'gosem.cut.vars' lays the variable. In a bare row this is a premise. The card (YbulkgbawFmtCards.lean) ties it to the program's text. -/
def laid_example_com_resolvent_resolvent_errModifierCount {H : Type} : DataW H := .iface "*errors.errorString" (.ptr (.agg [.lit (.string [105, 110, 118, 97, 108, 105, 100, 32, 116, 121, 112, 101, 32, 109, 111, 100, 105, 102, 105, 101, 114])]))

/-- 'resolvent.LawS8888AWhole': WHATEVER THE INPUT: true; the input reads as it did. -/
def lawS8888AWholeSpec : ChangeSpec := { name := "lawS8888AWhole", vars := ["example.com/resolvent/resolvent.errModifierCount"], fn := fun _ => fun
  | [d1, d2, d3, g1] => { results := [.lit (.bool true)], args := [d1, d2, d3], vars := [g1] }
  | _ => none }
def lawS8888AWholeRow : OpenClaim := { program := "ybulkgbawfmt", sum := "8ffa5af3757430c62e18582c263219e57ae83b988c0ada69725851f5f3020f49", func := "example.com/resolvent/resolvent.LawS8888AWhole", spec := "lawS8888AWhole", stops := ["fmt.errorf"], inPlace := ["fmt.errorf"], unfollowed := true, recurses := true, named := ["example.com/resolvent/resolvent.errModifierCount"], ifaces := true, apart := false, laid := [("example.com/resolvent/resolvent.errModifierCount", laid_example_com_resolvent_resolvent_errModifierCount)] }
/-- NO THEOREM (fmt's text is open here; it may be false): for the released tool's asking of the row's closed facts alone. THE STATEMENT IS 'LawS8888AWholeToldSaid' (YbulkgbawFmtCards.lean). -/
def LawS8888AWholeFormAsk : Prop := lawS8888AWholeRow.holds Ybaf.pinned (OpenSpec.ofChange lawS8888AWholeSpec)

/-- ITS FALSE NEIGHBOUR: 'it returns false'. Refute it at one input. -/
def lawS8888AWholeWrong : ChangeSpec := { name := "lawS8888AWhole", vars := ["example.com/resolvent/resolvent.errModifierCount"], fn := fun _ => fun
  | [d1, d2, d3, g1] => { results := [.lit (.bool false)], args := [d1, d2, d3], vars := [g1] }
  | _ => none }
def LawS8888AWholeWrongFormAsk : Prop := lawS8888AWholeRow.holds Ybaf.pinned (OpenSpec.ofChange lawS8888AWholeWrong)

end Rows
end Go.Proofs.YbulkgbawFmt
