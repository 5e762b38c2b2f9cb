import Derived.Test.YbulkdtxaAW3
import Derived.Test.YbulkdtxaAW4
import Derived.Test.YbulkdtxaAMap
namespace Go.Proofs.YbulkdtxaA
open Go.RowKit

/-- the rows of numbers that an index holds -/
inductive Kd where
  | all
  | first (s : List UInt8)
  | later (s : List UInt8)
  deriving DecidableEq

def num (j : Nat) : Value := .int .i64 (j : Int)
def nilS : Value := .slice none 0 0

/-- all the rows of numbers of an index: what they hold; no two share a block -/
structure Fam (w : World) (row : Kd → Option Value) (con : Kd → List Nat) (wr : World) : Prop where
  own : ∀ k v, row k = some v → Own wr 3 v ((con k).map num)
  fresh : ∀ k v g, row k = some v → v.ownBlock = some g → w.heap.size ≤ g
  apart : ∀ k k' v v' g, row k = some v → row k' = some v' → v.ownBlock = some g → v'.ownBlock = some g → k = k'
  none : ∀ k, row k = none → con k = []
  full : ∀ k v, row k = some v → con k ≠ []

def setRow' (row : Kd → Option Value) (k : Kd) (v : Value) : Kd → Option Value := fun x => if x = k then some v else row x
def setCon (con : Kd → List Nat) (k : Kd) (j : Nat) : Kd → List Nat := fun x => if x = k then con k ++ [j] else con x

theorem Fam.lt {w wr : World} {row : Kd → Option Value} {con : Kd → List Nat} (h : Fam w row con wr) {k : Kd} {v : Value} {g : Nat} (hv : row k = some v) (hg : v.ownBlock = some g) : g < wr.heap.size := ((h.own k v hv).lt hg).1
theorem Fam.ext {w wr w' : World} {row : Kd → Option Value} {con : Kd → List Nat} {ex : Nat → Prop} (h : Fam w row con wr) (e : Ext ex wr w') (hn : ∀ k v g, row k = some v → v.ownBlock = some g → ¬ ex g) : Fam w row con w' :=
  ⟨fun k v hv => (h.own k v hv).ext e (fun g hg => hn k v g hv hg), h.fresh, h.apart, h.none, h.full⟩
theorem Fam.ownD {w wr : World} {row : Kd → Option Value} {con : Kd → List Nat} (h : Fam w row con wr) (k : Kd) : Own wr 3 ((row k).getD nilS) ((con k).map num) := by
  cases hr : row k with
  | none => rw [h.none k hr]; exact .inl ⟨rfl, rfl⟩
  | some v => exact h.own k v hr

/-- one number more at one row -/
theorem Fam.app {w wr w2 : World} {row : Kd → Option Value} {con : Kd → List Nat} (h : Fam w row con wr) (hw : w.heap.size ≤ wr.heap.size) (k : Kd) (j : Nat) {ob : Obj} {v2 : Value}
    (hO : Own w2 3 v2 ((con k).map num ++ [num j])) (hg : (wr.alloc ob).grownBy w2 ((row k).getD nilS).ownBlock) (hb : ∃ g', v2.ownBlock = some g' ∧ (((row k).getD nilS).ownBlock = some g' ∨ (wr.alloc ob).heap.size ≤ g')) :
    Fam w (setRow' row k v2) (setCon con k j) w2 := by
  have hold : ∀ g, ((row k).getD nilS).ownBlock = some g → ∃ v, row k = some v ∧ v.ownBlock = some g := by
    intro g hgg
    cases hr : row k with
    | none => rw [hr] at hgg; cases hgg
    | some v => rw [hr] at hgg; exact ⟨v, rfl, hgg⟩
  have h2 := h.ext (Ext.alloc wr ob) (fun _ _ _ _ _ => id)
  obtain ⟨g', hg', hh⟩ := hb
  have hnew : ∀ x v g, x ≠ k → row x = some v → v.ownBlock = some g → g ≠ g' := by
    intro x v g hx hv hgv e
    subst e
    rcases hh with hh | hh
    · obtain ⟨v0, h0, h1⟩ := hold _ hh
      exact hx (h.apart x k v v0 g hv h0 hgv h1)
    · have := h.lt hv hgv
      simp at hh
      omega
  refine ⟨fun x v hv => ?_, fun x v g hv hgv => ?_, fun x x' v v' g hv hv' hgv hgv' => ?_, fun x hx => ?_, fun x v hv => ?_⟩
  · unfold setRow' at hv
    unfold setCon
    by_cases hx : x = k
    · subst hx
      simp at hv
      subst hv
      simpa using hO
    · rw [if_neg hx] at hv
      rw [if_neg hx]
      refine (h2.own x v hv).ext (Ext.grown hg) (fun g hgv e => ?_)
      obtain ⟨v0, h0, h1⟩ := hold _ e
      exact hx (h.apart x k v v0 g hv h0 hgv h1)
  · unfold setRow' at hv
    by_cases hx : x = k
    · subst hx
      simp at hv
      subst hv
      rw [hg'] at hgv; injection hgv with hgv; subst hgv
      rcases hh with hh | hh
      · obtain ⟨v0, h0, h1⟩ := hold _ hh
        exact h.fresh _ v0 _ h0 h1
      · simp at hh; omega
    · rw [if_neg hx] at hv
      exact h.fresh x v g hv hgv
  · unfold setRow' at hv hv'
    by_cases hx : x = k
    · by_cases hx' : x' = k
      · rw [hx, hx']
      · rw [if_neg hx'] at hv'
        rw [if_pos hx] at hv
        injection hv with hv; subst hv
        rw [hg'] at hgv; injection hgv with hgv
        exact absurd hgv.symm (hnew x' v' g hx' hv' hgv')
    · rw [if_neg hx] at hv
      by_cases hx' : x' = k
      · rw [if_pos hx'] at hv'
        injection hv' with hv'; subst hv'
        rw [hg'] at hgv'; injection hgv' with hgv'
        exact absurd hgv'.symm (hnew x v g hx hv hgv)
      · rw [if_neg hx'] at hv'
        exact h.apart x x' v v' g hv hv' hgv hgv'
  · unfold setRow' at hx
    by_cases hxk : x = k
    · rw [if_pos hxk] at hx; cases hx
    · rw [if_neg hxk] at hx
      unfold setCon
      rw [if_neg hxk]
      exact h.none x hx
  · unfold setRow' at hv
    unfold setCon
    by_cases hxk : x = k
    · rw [if_pos hxk]; simp
    · rw [if_neg hxk] at hv
      rw [if_neg hxk]
      exact h.full x v hv
end Go.Proofs.YbulkdtxaA
