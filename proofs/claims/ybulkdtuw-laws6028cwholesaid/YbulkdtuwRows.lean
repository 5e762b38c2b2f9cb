/-
  No cell of these rows narrows 'for every input' (looked for: loops, veiled, ifaces, maps, wideKeys, modest, calm, conditions, laid).
  DERIVED. THE GIVEN ROWS OF THIS SEAT. 3 by the template 'for every input the law returns true; each argument reads behind the call as it read before'; 0 by the template 'total and deterministic' (their statements: YbulkdtuwTotals.lean).
  GIVEN WITH THE SEED: the statements are not yours to turn. If you find one false, say at which input.
  Laid BY PROGRAM, IN A SANDBOX (cutbox-rows.mjs): the forced cells as the released guide's own fill.sh prints them over the translation 5845b801d5829fc7… (all of the seat's roots in one cut). By AI agents, Wed Nov 11 2026. No macro, syntax, notation, axiom, sorry.
-/
import Derived.Test.YbulkdtuwChecked
import GoSem.Claim
import GoSem.ClaimJoined
import GoSem.ClaimMapViews
import Derived.JoinedTies
import Derived.KernelRfl
namespace Go.Proofs.Ybulkdtuw
/- THE CELL 'sum', in the pinned program and in every row, IS THE sha256 OF THE DUMP (.gsa) THAT YbulkdtuwProg.lean LOADS. Nothing in Lean hashes anything: it is a label: what it is worth is what the hold of that sum in a sandbox is worth. -/
noncomputable def Yba.pinned : Pinned := { name := "ybulkdtuw", sum := "5845b801d5829fc736fd579c2d838be5b128f5fd19823828445466f74efb4b3b", checked := Yba.checked }
namespace Rows
def none {H : Type} : Left H := { results := [], args := [] }

/-- 'lock.LawS6028AWhole': WHATEVER THE INPUT: true; the input reads as it did. -/
def lawS6028AWholeSpec : ChangeSpec := { name := "lawS6028AWhole", fn := fun _ => fun
  | [d1, d2] => { results := [.lit (.bool true)], args := [d1, d2] }
  | _ => none }
def lawS6028AWholeRow : OpenClaim := { program := "ybulkdtuw", sum := "5845b801d5829fc736fd579c2d838be5b128f5fd19823828445466f74efb4b3b", func := "example.com/ordinal/ordinal/internal/lock.LawS6028AWhole", spec := "lawS6028AWhole", apart := false }
def LawS6028AWholeSaid : Prop := lawS6028AWholeRow.holds Yba.pinned (OpenSpec.ofChange lawS6028AWholeSpec)

/-- ITS FALSE NEIGHBOUR: 'it returns false'. Refute it at one input. -/
def lawS6028AWholeWrong : ChangeSpec := { name := "lawS6028AWhole", fn := fun _ => fun
  | [d1, d2] => { results := [.lit (.bool false)], args := [d1, d2] }
  | _ => none }
def LawS6028AWholeWrongFalsely : Prop := lawS6028AWholeRow.holds Yba.pinned (OpenSpec.ofChange lawS6028AWholeWrong)

/-- 'engine.LawS6028BWhole': WHATEVER THE INPUT: true; the input reads as it did. -/
def lawS6028BWholeSpec : ChangeSpec := { name := "lawS6028BWhole", fn := fun _ => fun
  | [d1, d2, d3] => { results := [.lit (.bool true)], args := [d1, d2, d3] }
  | _ => none }
def lawS6028BWholeRow : OpenClaim := { program := "ybulkdtuw", sum := "5845b801d5829fc736fd579c2d838be5b128f5fd19823828445466f74efb4b3b", func := "example.com/ordinal/ordinal/internal/engine.LawS6028BWhole", spec := "lawS6028BWhole", inPlace := ["internal/bytealg.abigen_runtime_cmpstring"], unfollowed := true, recurses := true, apart := false }
def LawS6028BWholeSaid : Prop := lawS6028BWholeRow.holds Yba.pinned (OpenSpec.ofChange lawS6028BWholeSpec)

/-- ITS FALSE NEIGHBOUR: 'it returns false'. Refute it at one input. -/
def lawS6028BWholeWrong : ChangeSpec := { name := "lawS6028BWhole", fn := fun _ => fun
  | [d1, d2, d3] => { results := [.lit (.bool false)], args := [d1, d2, d3] }
  | _ => none }
def LawS6028BWholeWrongFalsely : Prop := lawS6028BWholeRow.holds Yba.pinned (OpenSpec.ofChange lawS6028BWholeWrong)

/-- 'lock.LawS6028CWhole': WHATEVER THE INPUT: true; the input reads as it did. -/
def lawS6028CWholeSpec : ChangeSpec := { name := "lawS6028CWhole", fn := fun _ => fun
  | [d1, d2, d3, d4, d5, d6, d7, d8] => { results := [.lit (.bool true)], args := [d1, d2, d3, d4, d5, d6, d7, d8] }
  | _ => none }
def lawS6028CWholeRow : OpenClaim := { program := "ybulkdtuw", sum := "5845b801d5829fc736fd579c2d838be5b128f5fd19823828445466f74efb4b3b", func := "example.com/ordinal/ordinal/internal/lock.LawS6028CWhole", spec := "lawS6028CWhole", apart := false }
def LawS6028CWholeSaid : Prop := lawS6028CWholeRow.holds Yba.pinned (OpenSpec.ofChange lawS6028CWholeSpec)

/-- ITS FALSE NEIGHBOUR: 'it returns false'. Refute it at one input. -/
def lawS6028CWholeWrong : ChangeSpec := { name := "lawS6028CWhole", fn := fun _ => fun
  | [d1, d2, d3, d4, d5, d6, d7, d8] => { results := [.lit (.bool false)], args := [d1, d2, d3, d4, d5, d6, d7, d8] }
  | _ => none }
def LawS6028CWholeWrongFalsely : Prop := lawS6028CWholeRow.holds Yba.pinned (OpenSpec.ofChange lawS6028CWholeWrong)

end Rows
end Go.Proofs.Ybulkdtuw
