import Derived.Test.YbulkdtuwCG3
namespace Go.Proofs.YbulkdtuwC
open Go.RowKit Go.Proofs.YbulkdtuwB RawMap

section
variable {X : Nat → Array Value → TypeId → Prop} {w0 : World} {mb : Nat} {NB : Nd → Option Nat} {L : Rs → List (Nat × Nat)} {TP : Nat → Option Nat} {cnt : Nat} {wr : World}
/-- one extra block more -/
theorem Mg.addX (h : Mg X w0 mb NB L TP cnt wr) {q : Nat} {c : Array Value} {ty : TypeId} (hb : Blk wr q c ty) (ht : ty ≠ 79 ∧ ty ≠ 57 ∧ ty ≠ 109) : Mg (fun q' c' ty' => X q' c' ty' ∨ (q' = q ∧ c' = c ∧ ty' = ty)) w0 mb NB L TP cnt wr := by
  refine { h with extra := fun q' c' ty' hh => ?_ }
  rcases hh with hh | ⟨rfl, rfl, rfl⟩
  · exact h.extra _ _ _ hh
  · exact ⟨hb, ht⟩
theorem Mg.dropX (h : Mg X w0 mb NB L TP cnt wr) : Mg (fun _ _ _ => False) w0 mb NB L TP cnt wr := by
  refine { h with extra := fun _ _ _ hh => hh.elim }
end
end Go.Proofs.YbulkdtuwC
