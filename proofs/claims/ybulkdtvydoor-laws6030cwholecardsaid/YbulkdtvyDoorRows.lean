/-
  NARROWER THAN 'FOR EVERY INPUT', by the rows' own cells (each row's printed sentence says how): LawS6030CWhole: laid.
  DERIVED. THE GIVEN ROWS OF THIS SEAT. 1 by the template 'for every input the law returns true; each argument reads behind the call as it read before'; 0 by the template 'total and deterministic' (their statements: YbulkdtvyDoorTotals.lean).
  GIVEN WITH THE SEED: the statements are not yours to turn. If you find one false, say at which input.
  Laid BY PROGRAM, IN A SANDBOX (cutbox-rows.mjs): the forced cells as the released guide's own fill.sh prints them over the translation b9ff0bfbf8ad672f… (all of the seat's roots in one cut). By AI agents, Wed Nov 11 2026. No macro, syntax, notation, axiom, sorry.
-/
import Derived.Test.YbulkdtvyDoorChecked
import GoSem.Claim
import GoSem.ClaimJoined
import GoSem.ClaimMapViews
import Derived.JoinedTies
import Derived.KernelRfl
namespace Go.Proofs.YbulkdtvyDoor
/- THE CELL 'sum', in the pinned program and in every row, IS THE sha256 OF THE DUMP (.gsa) THAT YbulkdtvyDoorProg.lean LOADS. Nothing in Lean hashes anything: it is a label: what it is worth is what the hold of that sum in a sandbox is worth. -/
noncomputable def Ybad.pinned : Pinned := { name := "ybulkdtvydoor", sum := "b9ff0bfbf8ad672f7bc32b55688a92f218576312155c9b4b62e815bc239b3ac0", checked := Ybad.checked }
namespace Rows
def none {H : Type} : Left H := { results := [], args := [] }

/- WHAT THE LISTED PACKAGE-LEVEL VARIABLES READ AS WHEN THE CALL BEGINS. Each datum BY PROGRAM (the guide's laid-datum.mjs) off the statement by which the dump's own 'gosem.cut.vars' lays the variable. In a bare row this is a premise. The card (YbulkdtvyDoorCards.lean) ties it to the program's text. -/
def laid_example_com_parcelwright_parcelwright_pkg_check_oddityText {H : Type} : DataW H := .agg [.lit (.string []), .lit (.string [100, 101, 102, 105, 110, 101, 115, 32, 110, 111, 116, 104, 105, 110, 103, 44, 32, 97, 115, 32, 110, 111, 32, 112, 97, 114, 97, 109, 101, 116, 101, 114, 32, 110, 97, 109, 101, 32, 115, 116, 97, 110, 100, 115, 32, 98, 101, 102, 111, 114, 101, 32, 97, 110, 32, 39, 61, 39, 59, 32, 116, 104, 101, 32, 112, 97, 99, 107, 97, 103, 101, 32, 98, 117, 105, 108, 100, 101, 114, 32, 105, 103, 110, 111, 114, 101, 115, 32, 116, 104, 101, 32, 108, 105, 110, 101]), .lit (.string [116, 104, 101, 32, 111, 112, 101, 110, 105, 110, 103, 32, 113, 117, 111, 116, 101, 32, 104, 97, 115, 32, 110, 111, 32, 112, 97, 114, 116, 110, 101, 114, 32, 111, 110, 32, 116, 104, 101, 32, 108, 105, 110, 101, 59, 32, 116, 104, 101, 32, 112, 97, 99, 107, 97, 103, 101, 32, 98, 117, 105, 108, 100, 101, 114, 32, 115, 116, 111, 112, 115, 32, 114, 101, 97, 100, 105, 110, 103, 32, 116, 104, 101, 32, 102, 105, 108, 101, 32, 104, 101, 114, 101]), .lit (.string [116, 101, 120, 116, 32, 102, 111, 108, 108, 111, 119, 115, 32, 116, 104, 101, 32, 99, 108, 111, 115, 105, 110, 103, 32, 113, 117, 111, 116, 101, 59, 32, 116, 104, 101, 32, 112, 97, 99, 107, 97, 103, 101, 32, 98, 117, 105, 108, 100, 101, 114, 32, 107, 101, 101, 112, 115, 32, 105, 116, 32, 105, 110, 32, 116, 104, 101, 32, 118, 97, 108, 117, 101]), .lit (.string [116, 104, 101, 32, 108, 105, 110, 101, 32, 101, 110, 100, 115, 32, 105, 110, 32, 97, 32, 98, 97, 99, 107, 115, 108, 97, 115, 104, 59, 32, 116, 104, 101, 32, 112, 97, 99, 107, 97, 103, 101, 32, 98, 117, 105, 108, 100, 101, 114, 32, 100, 114, 111, 112, 115, 32, 105, 116, 32, 97, 110, 100, 32, 114, 101, 97, 100, 115, 32, 116, 104, 101, 32, 110, 101, 120, 116, 32, 108, 105, 110, 101, 32, 105, 110, 116, 111, 32, 116, 104, 101, 32, 118, 97, 108, 117, 101, 44, 32, 97, 102, 116, 101, 114, 32, 97, 32, 110, 101, 119, 108, 105, 110, 101]), .lit (.string [97, 32, 39, 58, 39, 32, 101, 110, 100, 115, 32, 116, 104, 101, 32, 110, 97, 109, 101, 59, 32, 116, 104, 101, 32, 100, 111, 99, 117, 109, 101, 110, 116, 115, 32, 97, 115, 107, 32, 102, 111, 114, 32, 97, 110, 32, 39, 61, 39, 44, 32, 116, 104, 111, 117, 103, 104, 32, 116, 104, 101, 32, 112, 97, 99, 107, 97, 103, 101, 32, 98, 117, 105, 108, 100, 101, 114, 32, 114, 101, 97, 100, 115, 32, 119, 104, 97, 116, 32, 102, 111, 108, 108, 111, 119, 115, 32, 116, 104, 101, 32, 39, 58, 39, 32, 97, 115, 32, 116, 104, 101, 32, 118, 97, 108, 117, 101]), .lit (.string [104, 111, 108, 100, 115, 32, 97, 32, 78, 85, 76, 32, 98, 121, 116, 101, 59, 32, 116, 104, 101, 32, 112, 97, 99, 107, 97, 103, 101, 32, 98, 117, 105, 108, 100, 101, 114, 32, 115, 116, 111, 114, 101, 115, 32, 116, 104, 101, 32, 118, 97, 108, 117, 101, 32, 117, 112, 32, 116, 111, 32, 105, 116, 32, 97, 110, 100, 32, 100, 114, 111, 112, 115, 32, 116, 104, 101, 32, 114, 101, 115, 116])]

/-- 'check.LawS6030CWhole': WHATEVER THE INPUT: true; the input reads as it did. -/
def lawS6030CWholeSpec : ChangeSpec := { name := "lawS6030CWhole", vars := ["example.com/parcelwright/parcelwright/pkg/check.oddityText"], fn := fun _ => fun
  | [d1, d2, d3, d4, d5, d6, g1] => { results := [.lit (.bool true)], args := [d1, d2, d3, d4, d5, d6], vars := [g1] }
  | _ => none }
def lawS6030CWholeRow : OpenClaim := { program := "ybulkdtvydoor", sum := "b9ff0bfbf8ad672f7bc32b55688a92f218576312155c9b4b62e815bc239b3ac0", func := "example.com/parcelwright/parcelwright/pkg/check.LawS6030CWhole", spec := "lawS6030CWhole", named := ["example.com/parcelwright/parcelwright/pkg/check.oddityText"], apart := false, laid := [("example.com/parcelwright/parcelwright/pkg/check.oddityText", laid_example_com_parcelwright_parcelwright_pkg_check_oddityText)] }
def LawS6030CWholeSaid : Prop := lawS6030CWholeRow.holds Ybad.pinned (OpenSpec.ofChange lawS6030CWholeSpec)

/-- ITS FALSE NEIGHBOUR: 'it returns false'. Refute it at one input. -/
def lawS6030CWholeWrong : ChangeSpec := { name := "lawS6030CWhole", vars := ["example.com/parcelwright/parcelwright/pkg/check.oddityText"], fn := fun _ => fun
  | [d1, d2, d3, d4, d5, d6, g1] => { results := [.lit (.bool false)], args := [d1, d2, d3, d4, d5, d6], vars := [g1] }
  | _ => none }
def LawS6030CWholeWrongFalsely : Prop := lawS6030CWholeRow.holds Ybad.pinned (OpenSpec.ofChange lawS6030CWholeWrong)

end Rows
end Go.Proofs.YbulkdtvyDoor
