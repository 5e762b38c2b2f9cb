import Derived.Below
import Derived.Laws.NewBlocks
import Derived.WalkKit
import Derived.ProofKit
import Derived.Deep.QuietTactic
import Derived.BigQuiet
import Derived.WalkLawsBesides
import Derived.WalkSpells
namespace Go.Proofs.YbulkdtvyDoor.M
open Go.RowKit

theorem hide {p : Prop} (h : p) : Hid p := h
theorem unhide {p : Prop} (h : Hid p) : p := h

/-- block b holds just these cells -/
def Blk (w : World) (b : Nat) (c : Array Value) (t : TypeId) : Prop := w.heap[b]? = some (.cells c t (0, 0))

theorem Blk.lt {w : World} {b : Nat} {c : Array Value} {t : TypeId} (h : Blk w b c t) : b < w.heap.size := by
  unfold Blk at h
  rcases Nat.lt_or_ge b w.heap.size with h' | h'
  · exact h'
  · rw [Array.getElem?_eq_none h'] at h; cases h
theorem Blk.cell {w : World} {b : Nat} {c : Array Value} {t : TypeId} (h : Blk w b c t) (i : Nat) : w.cell? ⟨b, i, none⟩ = c[i]? := by
  unfold Blk at h; simp [World.cell?, h]
theorem Blk.frozen {w : World} {b : Nat} {c : Array Value} {t : TypeId} (h : Blk w b c t) (i : Nat) : w.frozen? ⟨b, i, none⟩ = false := by
  unfold Blk at h; simp [World.frozen?, h]
theorem Blk.drew {w : World} {b : Nat} {c : Array Value} {t : TypeId} (h : Blk w b c t) : Blk w.drew b c t := h
theorem Blk.new (w : World) (c : Array Value) (t : TypeId) : Blk (w.alloc (.cells c t)) w.heap.size c t := by
  unfold Blk; show (w.heap.push _)[w.heap.size]? = _; simp
theorem Blk.alloc {w : World} {b : Nat} {c : Array Value} {t : TypeId} (h : Blk w b c t) (o : Obj) : Blk (w.alloc o) b c t := by
  unfold Blk; rw [Below.heap_alloc _ _ _ h.lt]; exact h
theorem Blk.other {w : World} {b : Nat} {c : Array Value} {t : TypeId} (h : Blk w b c t) (a : Addr) (v : Value) (hb : b ≠ a.block) : Blk (w.setCell a v) b c t := by
  unfold Blk; rw [Below.heap_setCell _ _ _ _ hb]; exact h
theorem Blk.same {w : World} {b : Nat} {c : Array Value} {t : TypeId} (h : Blk w b c t) (i : Nat) (v : Value) : Blk (w.setCell ⟨b, i, none⟩ v) b (c.setIfInBounds i v) t := by
  unfold Blk at h ⊢
  simp only [World.setCell, Array.getElem?_modify, ↓reduceIte, h, Option.map_some]
  rfl
theorem Blk.below {B : Nat} {w w' : World} (hb : Below B w w') {b : Nat} {c : Array Value} {t : TypeId} (h : Blk w b c t) (hB : b < B) : Blk w' b c t := by
  unfold Blk; rw [hb.block b hB]; exact h
theorem Blk.grown {w w' : World} {row : Option Nat} (hg : w.grownBy w' row) {b : Nat} {c : Array Value} {t : TypeId} (h : Blk w b c t) (hr : some b ≠ row) : Blk w' b c t := by
  unfold Blk; rw [hg.block b h.lt hr]; exact h
theorem Blk.drewN {w : World} {b : Nat} {c : Array Value} {t : TypeId} (h : Blk w b c t) (n : Nat) : Blk (w.drewN n) b c t := by
  unfold Blk; exact h
end Go.Proofs.YbulkdtvyDoor.M
