/-
  No cell of these rows narrows 'for every input' (looked for: loops, veiled, ifaces, maps, wideKeys, modest, calm, conditions, laid).
  DERIVED. THE GIVEN ROWS OF THIS SEAT. 2 by the template 'for every input the law returns true; each argument reads behind the call as it read before'; 0 by the template 'total and deterministic' (their statements: YbulkdtxaTotals.lean).
  GIVEN WITH THE SEED: the statements are not yours to turn. If you find one false, say at which input.
  Laid BY PROGRAM, IN A SANDBOX (cutbox-rows.mjs): the forced cells as the released guide's own fill.sh prints them over the translation 2137e4df553878b8… (all of the seat's roots in one cut). By AI agents, Wed Nov 11 2026. No macro, syntax, notation, axiom, sorry.
-/
import Derived.Test.YbulkdtxaChecked
import GoSem.Claim
import GoSem.ClaimJoined
import GoSem.ClaimMapViews
import Derived.JoinedTies
import Derived.KernelRfl
namespace Go.Proofs.Ybulkdtxa
/- THE CELL 'sum', in the pinned program and in every row, IS THE sha256 OF THE DUMP (.gsa) THAT YbulkdtxaProg.lean LOADS. Nothing in Lean hashes anything: it is a label: what it is worth is what the hold of that sum in a sandbox is worth. -/
noncomputable def Yba.pinned : Pinned := { name := "ybulkdtxa", sum := "2137e4df553878b8a4dda551f949b3caa697421f69a4f6bedb567f3d2bd4f3c5", checked := Yba.checked }
namespace Rows
def none {H : Type} : Left H := { results := [], args := [] }

/-- 'parlance.LawS6032AWhole': WHATEVER THE INPUT: true; the input reads as it did. -/
def lawS6032AWholeSpec : ChangeSpec := { name := "lawS6032AWhole", fn := fun _ => fun
  | [d1, d2, d3, d4] => { results := [.lit (.bool true)], args := [d1, d2, d3, d4] }
  | _ => none }
def lawS6032AWholeRow : OpenClaim := { program := "ybulkdtxa", sum := "2137e4df553878b8a4dda551f949b3caa697421f69a4f6bedb567f3d2bd4f3c5", func := "example.com/parlance/parlance.LawS6032AWhole", spec := "lawS6032AWhole", apart := false }
def LawS6032AWholeSaid : Prop := lawS6032AWholeRow.holds Yba.pinned (OpenSpec.ofChange lawS6032AWholeSpec)

/-- ITS FALSE NEIGHBOUR: 'it returns false'. Refute it at one input. -/
def lawS6032AWholeWrong : ChangeSpec := { name := "lawS6032AWhole", fn := fun _ => fun
  | [d1, d2, d3, d4] => { results := [.lit (.bool false)], args := [d1, d2, d3, d4] }
  | _ => none }
def LawS6032AWholeWrongFalsely : Prop := lawS6032AWholeRow.holds Yba.pinned (OpenSpec.ofChange lawS6032AWholeWrong)

/-- 'langtag.LawS6032BWhole': WHATEVER THE INPUT: true; the input reads as it did. -/
def lawS6032BWholeSpec : ChangeSpec := { name := "lawS6032BWhole", fn := fun _ => fun
  | [d] => { results := [.lit (.bool true)], args := [d] }
  | _ => none }
def lawS6032BWholeRow : OpenClaim := { program := "ybulkdtxa", sum := "2137e4df553878b8a4dda551f949b3caa697421f69a4f6bedb567f3d2bd4f3c5", func := "example.com/parlance/parlance/internal/langtag.LawS6032BWhole", spec := "lawS6032BWhole", apart := false }
def LawS6032BWholeSaid : Prop := lawS6032BWholeRow.holds Yba.pinned (OpenSpec.ofChange lawS6032BWholeSpec)

/-- ITS FALSE NEIGHBOUR: 'it returns false'. Refute it at one input. -/
def lawS6032BWholeWrong : ChangeSpec := { name := "lawS6032BWhole", fn := fun _ => fun
  | [d] => { results := [.lit (.bool false)], args := [d] }
  | _ => none }
def LawS6032BWholeWrongFalsely : Prop := lawS6032BWholeRow.holds Yba.pinned (OpenSpec.ofChange lawS6032BWholeWrong)

end Rows
end Go.Proofs.Ybulkdtxa
