import Derived.Test.YbulkdtxaAR
import Derived.Test.YbulkdtxaAP2
namespace Go.Proofs.YbulkdtxaA
open Go.RowKit RawMap

/-- the tags so far, lowered, each once -/
def ddup : List (List UInt8) → List (List UInt8) → List (List UInt8)
  | acc, [] => acc
  | acc, t :: L => ddup (if lwS t ∈ acc then acc else acc ++ [lwS t]) L

/-- newTagIndex's state between two tags -/
structure NSt (w : World) (xb fb lb sb : Nat) (low : List (List UInt8)) (i : Nat) (wr : World) : Prop where
  idx : ∃ vw vt ws row nm fm lm, Idx w xb fb lb vw vt ((row .all).getD nilS) vw vt ws low row (conOf low) nm fm lm wr ∧ ws.length = low.length ∧ nm ≤ i * 2097153
  seen : ∃ sm, Mp Yba.prog 9 wr sb i sm ∧ ∀ t, sm (.string t) = if t ∈ low then some (.bool true) else none
  sx : sb ≠ xb ∧ sb ≠ fb ∧ sb ≠ lb ∧ w.heap.size ≤ sb

theorem NSt.start (w : World) : NSt w (w.heap.size + 1 + 1) w.heap.size (w.heap.size + 1) (w.heap.size + 1 + 1 + 1) [] 0
    ((((w.alloc (.map #[] 0)).alloc (.map #[] 0)).alloc (.cells #[.slice none 0 0, .slice none 0 0, .slice none 0 0, .map (some w.heap.size), .map (some (w.heap.size + 1))] 36)).alloc (.map #[] 0)) := by
  have m1 := Mp.made Yba.prog 9 w
  have m2 := Mp.made Yba.prog 9 (w.alloc (.map #[] 0))
  have x3 := Blk.new ((w.alloc (.map #[] 0)).alloc (.map #[] 0)) #[.slice none 0 0, .slice none 0 0, .slice none 0 0, .map (some w.heap.size), .map (some (w.heap.size + 1))] 36
  have m4 := Mp.made Yba.prog 9 (((w.alloc (.map #[] 0)).alloc (.map #[] 0)).alloc (.cells #[.slice none 0 0, .slice none 0 0, .slice none 0 0, .map (some w.heap.size), .map (some (w.heap.size + 1))] 36))
  have s1 : (w.alloc (.map #[] 0)).heap.size = w.heap.size + 1 := by simp
  have s2 : ((w.alloc (.map #[] 0)).alloc (.map #[] 0)).heap.size = w.heap.size + 1 + 1 := by simp
  have s3 : (((w.alloc (.map #[] 0)).alloc (.map #[] 0)).alloc (.cells #[.slice none 0 0, .slice none 0 0, .slice none 0 0, .map (some w.heap.size), .map (some (w.heap.size + 1))] 36)).heap.size = w.heap.size + 1 + 1 + 1 := by simp
  rw [s1] at m2
  rw [s2] at x3
  rw [s3] at m4
  have al : ∀ {w1 : World} {b n : Nat} {f : Lit → Option Value} (o : Obj), Mp Yba.prog 9 w1 b n f → Mp Yba.prog 9 (w1.alloc o) b n f := fun o h => h.of (Below.heap_alloc _ _ _ h.lt)
  refine ⟨⟨.slice none 0 0, .slice none 0 0, [], fun _ => none, 0, fun _ => none, fun _ => none, ?_, rfl, Nat.le_refl _⟩, ⟨fun _ => none, m4, fun t => by simp⟩, by omega, by omega, by omega, by omega⟩
  exact {
    ext := (((Ext.alloc w _).trans (Ext.alloc _ _)).trans ((Ext.alloc _ _).trans (Ext.alloc _ _))).mono (fun k _ h => by rcases h with (h | h) | h | h <;> exact h)
    xblk := x3.alloc _
    fam := ⟨(fun _ _ hv => nomatch hv), (fun _ _ _ hv => nomatch hv), (fun _ _ _ _ _ hv => nomatch hv), (fun k _ => by cases k <;> rfl), (fun _ _ hv => nomatch hv)⟩
    ownW := .inl ⟨rfl, rfl⟩
    ownT := .inl ⟨rfl, rfl⟩
    freshX := by omega
    freshW := (fun _ h => nomatch h)
    freshT := (fun _ h => nomatch h)
    apart := (fun _ h => nomatch h)
    fmap := al _ (al _ (al _ m1))
    lmap := al _ (al _ m2)
    frow := fun _ => rfl
    lrow := fun _ => rfl
    freshF := Nat.le_refl _
    freshL := by omega
    fl := by omega }
end Go.Proofs.YbulkdtxaA
