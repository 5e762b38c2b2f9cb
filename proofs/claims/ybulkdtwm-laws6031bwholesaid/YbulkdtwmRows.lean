/-
  No cell of these rows narrows 'for every input' (looked for: loops, veiled, ifaces, maps, wideKeys, modest, calm, conditions, laid).
  DERIVED. THE GIVEN ROWS OF THIS SEAT. 1 by the template 'for every input the law returns true; each argument reads behind the call as it read before'; 0 by the template 'total and deterministic' (their statements: YbulkdtwmTotals.lean).
  GIVEN WITH THE SEED: the statements are not yours to turn. If you find one false, say at which input.
  Laid BY PROGRAM, IN A SANDBOX (cutbox-rows.mjs): the forced cells as the released guide's own fill.sh prints them over the translation 3b00d2c28630eec4… (all of the seat's roots in one cut). By AI agents, Wed Nov 11 2026. No macro, syntax, notation, axiom, sorry.
-/
import Derived.Test.YbulkdtwmChecked
import GoSem.Claim
import GoSem.ClaimJoined
import GoSem.ClaimMapViews
import Derived.JoinedTies
import Derived.KernelRfl
namespace Go.Proofs.Ybulkdtwm
/- THE CELL 'sum', in the pinned program and in every row, IS THE sha256 OF THE DUMP (.gsa) THAT YbulkdtwmProg.lean LOADS. Nothing in Lean hashes anything: it is a label: what it is worth is what the hold of that sum in a sandbox is worth. -/
noncomputable def Yba.pinned : Pinned := { name := "ybulkdtwm", sum := "3b00d2c28630eec4987b39d452c1b20412afd376f6d1d6076f778c38f74c7785", checked := Yba.checked }
namespace Rows
def none {H : Type} : Left H := { results := [], args := [] }

/-- 'exact.LawS6031BWhole': WHATEVER THE INPUT: true; the input reads as it did. -/
def lawS6031BWholeSpec : ChangeSpec := { name := "lawS6031BWhole", fn := fun _ => fun
  | [d1, d2, d3, d4, d5] => { results := [.lit (.bool true)], args := [d1, d2, d3, d4, d5] }
  | _ => none }
def lawS6031BWholeRow : OpenClaim := { program := "ybulkdtwm", sum := "3b00d2c28630eec4987b39d452c1b20412afd376f6d1d6076f778c38f74c7785", func := "example.com/idlewild/idlewild/internal/exact.LawS6031BWhole", spec := "lawS6031BWhole", inPlace := ["math.Float64frombits", "math.Float64bits"], named := ["math/bits.divideError", "math/bits.overflowError"], apart := false }
def LawS6031BWholeSaid : Prop := lawS6031BWholeRow.holds Yba.pinned (OpenSpec.ofChange lawS6031BWholeSpec)

/-- ITS FALSE NEIGHBOUR: 'it returns false'. Refute it at one input. -/
def lawS6031BWholeWrong : ChangeSpec := { name := "lawS6031BWhole", fn := fun _ => fun
  | [d1, d2, d3, d4, d5] => { results := [.lit (.bool false)], args := [d1, d2, d3, d4, d5] }
  | _ => none }
def LawS6031BWholeWrongFalsely : Prop := lawS6031BWholeRow.holds Yba.pinned (OpenSpec.ofChange lawS6031BWholeWrong)

end Rows
end Go.Proofs.Ybulkdtwm
