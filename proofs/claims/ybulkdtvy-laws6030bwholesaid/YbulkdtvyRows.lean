/-
  No cell of these rows narrows 'for every input' (looked for: loops, veiled, ifaces, maps, wideKeys, modest, calm, conditions, laid).
  DERIVED. THE GIVEN ROWS OF THIS SEAT. 2 by the template 'for every input the law returns true; each argument reads behind the call as it read before'; 0 by the template 'total and deterministic' (their statements: YbulkdtvyTotals.lean).
  GIVEN WITH THE SEED: the statements are not yours to turn. If you find one false, say at which input.
  Laid BY PROGRAM, IN A SANDBOX (cutbox-rows.mjs): the forced cells as the released guide's own fill.sh prints them over the translation 17869f26b5dec837… (all of the seat's roots in one cut). By AI agents, Wed Nov 11 2026. No macro, syntax, notation, axiom, sorry.
-/
import Derived.Test.YbulkdtvyChecked
import GoSem.Claim
import GoSem.ClaimJoined
import GoSem.ClaimMapViews
import Derived.JoinedTies
import Derived.KernelRfl
namespace Go.Proofs.Ybulkdtvy
/- THE CELL 'sum', in the pinned program and in every row, IS THE sha256 OF THE DUMP (.gsa) THAT YbulkdtvyProg.lean LOADS. Nothing in Lean hashes anything: it is a label: what it is worth is what the hold of that sum in a sandbox is worth. -/
noncomputable def Yba.pinned : Pinned := { name := "ybulkdtvy", sum := "17869f26b5dec8374c7765a98a9a01d887f26db56073b8ee749c679e311364e4", checked := Yba.checked }
namespace Rows
def none {H : Type} : Left H := { results := [], args := [] }

/-- 'pkginfo.LawS6030AWhole': WHATEVER THE INPUT: true; the input reads as it did. -/
def lawS6030AWholeSpec : ChangeSpec := { name := "lawS6030AWhole", fn := fun _ => fun
  | [d] => { results := [.lit (.bool true)], args := [d] }
  | _ => none }
def lawS6030AWholeRow : OpenClaim := { program := "ybulkdtvy", sum := "17869f26b5dec8374c7765a98a9a01d887f26db56073b8ee749c679e311364e4", func := "example.com/parcelwright/parcelwright/pkg/pkginfo.LawS6030AWhole", spec := "lawS6030AWhole", inPlace := ["internal/abi.NoEscape", "internal/bytealg.MakeNoZero", "internal/bytealg.IndexByteString", "internal/bytealg.IndexString"], named := ["internal/bytealg.MaxLen"], apart := false }
def LawS6030AWholeSaid : Prop := lawS6030AWholeRow.holds Yba.pinned (OpenSpec.ofChange lawS6030AWholeSpec)

/-- ITS FALSE NEIGHBOUR: 'it returns false'. Refute it at one input. -/
def lawS6030AWholeWrong : ChangeSpec := { name := "lawS6030AWhole", fn := fun _ => fun
  | [d] => { results := [.lit (.bool false)], args := [d] }
  | _ => none }
def LawS6030AWholeWrongFalsely : Prop := lawS6030AWholeRow.holds Yba.pinned (OpenSpec.ofChange lawS6030AWholeWrong)

/-- 'pkginfo.LawS6030BWhole': WHATEVER THE INPUT: true; the input reads as it did. -/
def lawS6030BWholeSpec : ChangeSpec := { name := "lawS6030BWhole", fn := fun _ => fun
  | [d] => { results := [.lit (.bool true)], args := [d] }
  | _ => none }
def lawS6030BWholeRow : OpenClaim := { program := "ybulkdtvy", sum := "17869f26b5dec8374c7765a98a9a01d887f26db56073b8ee749c679e311364e4", func := "example.com/parcelwright/parcelwright/pkg/pkginfo.LawS6030BWhole", spec := "lawS6030BWhole", apart := false }
def LawS6030BWholeSaid : Prop := lawS6030BWholeRow.holds Yba.pinned (OpenSpec.ofChange lawS6030BWholeSpec)

/-- ITS FALSE NEIGHBOUR: 'it returns false'. Refute it at one input. -/
def lawS6030BWholeWrong : ChangeSpec := { name := "lawS6030BWhole", fn := fun _ => fun
  | [d] => { results := [.lit (.bool false)], args := [d] }
  | _ => none }
def LawS6030BWholeWrongFalsely : Prop := lawS6030BWholeRow.holds Yba.pinned (OpenSpec.ofChange lawS6030BWholeWrong)

end Rows
end Go.Proofs.Ybulkdtvy
