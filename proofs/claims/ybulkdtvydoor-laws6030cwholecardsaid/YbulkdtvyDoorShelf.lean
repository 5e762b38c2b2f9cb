/-
  DERIVED: THE SHELF's CONTRACTS AT THIS DUMP, IN PLAIN WORDS (tools/lay-plain.mjs out of 'YbadShelf.lean', which tools/lay-shelf.mjs wrote): THE SAME DECLARATIONS UNDER THE SAME NAMES: 'import', 'namespace', 'open', 'def', 'theorem' AND NOTHING ELSE: no command of the shelf's: FOR A HAND-IN. Each laying: the table of numbers ('.._ren') and one theorem, a field a fact of the dump's own or the kernel's comparison; each contract: ONE APPLICATION.
-/
import Derived.Shelf.SlicesE.Clone
import Derived.Shelf.SlicesQ.Equal
import Derived.Test.YbulkdtvyDoorProg
namespace Go.Proofs
open Go.Shelf
set_option maxRecDepth 100000
def Ybad.lclone_ren : Go.Shelf.Ren := ⟨fun | 41 => 5 | n => n, fun | 22 => 26 | 23 => 31 | 4 => 4 | n => n, fun | n => n⟩
theorem Ybad.lclone : Go.Proofs.SlLaysE0.n41 Ybad.prog Ybad.lclone_ren := {
  mixed := by kernel_rfl
  f41 := ⟨Ybad.f5.name, by decide, Ybad.func5.trans (congrArg some (by kernel_rfl))⟩
  t4 := Ybad.underlying4
  a4 := Ybad.isAgg4
  z4 := Ybad.sizeOf4
  v4 := Ybad.zeroValue4
  t22 := Ybad.underlying26
  a22 := Ybad.isAgg26
  z22 := Ybad.sizeOf26
  v22 := Ybad.zeroValue26 }
def Ybad.lequal_ren : Go.Shelf.Ren := ⟨fun | 8 => 7 | n => n, fun | 22 => 26 | 24 => 31 | 4 => 4 | 3 => 3 | 0 => 0 | n => n, fun | n => n⟩
theorem Ybad.lequal : Go.Proofs.SlLaysQ.n8 Ybad.prog Ybad.lequal_ren := {
  mixed := by kernel_rfl
  f8 := ⟨Ybad.f7.name, by decide, Ybad.func7.trans (congrArg some (by kernel_rfl))⟩
  t0 := Ybad.underlying0
  a0 := Ybad.isAgg0
  z0 := Ybad.sizeOf0
  v0 := Ybad.zeroValue0
  t3 := Ybad.underlying3
  a3 := Ybad.isAgg3
  z3 := Ybad.sizeOf3
  v3 := Ybad.zeroValue3
  t4 := Ybad.underlying4
  a4 := Ybad.isAgg4
  z4 := Ybad.sizeOf4
  v4 := Ybad.zeroValue4
  t22 := Ybad.underlying26
  a22 := Ybad.isAgg26
  z22 := Ybad.sizeOf26
  v22 := Ybad.zeroValue26 }
end Go.Proofs
