import Derived.Test.YbulkdtuwCRL
import Derived.Test.YbulkdtuwCH3
namespace Go.Proofs.YbulkdtuwC
open Go.RowKit Go.Proofs.YbulkdtuwB RawMap

def el6 (x : Rs × Nat) : List Value := (resC x.1).toList ++ [.int .u8 (x.2 : Nat)]
def flat (l : List (Rs × Nat)) : List Value := l.flatMap el6
theorem el6_len (x : Rs × Nat) : (el6 x).length = 6 := by
  unfold el6
  cases x.1 <;> rfl
theorem flat_snoc (l : List (Rs × Nat)) (x : Rs × Nat) : flat (l ++ [x]) = flat l ++ el6 x := by simp [flat]
theorem flat_at : ∀ (l : List (Rs × Nat)) (i : Nat) (hi : i < l.length) (j : Nat), j < 6 → (flat l)[i * 6 + j]? = (el6 l[i])[j]?
  | [], i, hi, _, _ => absurd hi (by simp)
  | x :: l, 0, _, j, hj => by
    show (el6 x ++ flat l)[0 * 6 + j]? = _
    rw [Nat.zero_mul, Nat.zero_add, List.getElem?_append_left (by rw [el6_len]; exact hj)]; rfl
  | x :: l, i + 1, hi, j, hj => by
    show (el6 x ++ flat l)[(i + 1) * 6 + j]? = _
    rw [List.getElem?_append_right (by rw [el6_len]; omega), el6_len, show (i + 1) * 6 + j - 6 = i * 6 + j by omega]
    have := flat_at l i (by simp at hi; omega) j hj
    simpa using this
theorem el6_res (x : Rs × Nat) (j : Nat) (hj : j < 5) : (el6 x)[j]? = (resC x.1)[j]? := by
  unfold el6
  have hs : (resC x.1).size = 5 := by cases x.1 <;> rfl
  rw [List.getElem?_append_left (by simp; omega)]
  simp
theorem el6_mode (x : Rs × Nat) : (el6 x)[5]? = some (.int .u8 (x.2 : Nat)) := by
  unfold el6
  have hs : (resC x.1).size = 5 := by cases x.1 <;> rfl
  rw [List.getElem?_append_right (by simp; omega)]
  simp [hs]
theorem ICells.of {w : World} {B : Nat} {v : Value} {l : List (Rs × Nat)} (h : w.ownsRow B 93 6 v l.length (flat l)) : ICells w v l := by
  rcases h.2 with ⟨rfl, hn⟩ | ⟨g, cap, cur, rfl, _, hb, hnc, hcm, hcs, ht⟩
  · have : l = [] := List.eq_nil_of_length_eq_zero hn
    subst this
    exact ⟨none, 0, rfl, fun h => absurd rfl h⟩
  · refine ⟨_, cap, rfl, fun _ => ⟨g, rfl, fun i hi => ?_⟩⟩
    have hB : Blk w g cur 93 := hb
    have key : ∀ j, j < 6 → w.cell? ⟨g, i * 6 + j, none⟩ = (el6 l[i])[j]? := by
      intro j hj
      rw [hB.cell, ← flat_at l i hi j hj, ← ht, List.getElem?_take, if_pos (by omega)]
      simp
    exact ⟨fun j hj => by rw [key j (by omega), el6_res _ _ hj], by rw [key 5 (by omega), el6_mode]⟩

section
variable {X : Nat → Array Value → TypeId → Prop} {w0 : World} {mb : Nat} {NB : Nd → Option Nat} {L : Rs → List (Nat × Nat)} {TP : Nat → Option Nat} {cnt : Nat} {wr : World}
/-- a block that is none of the Manager's is written -/
theorem Mg.far (h : Mg (fun _ _ _ => False) w0 mb NB L TP cnt wr) {r : Option Nat} {w' : World} (e : Ext (fun k => r = some k) wr w') (hg : ∀ g, r = some g → w0.heap.size ≤ g ∧ ∃ c ty, Blk wr g c ty ∧ ty ≠ 79 ∧ ty ≠ 57 ∧ ty ≠ 109) : Mg (fun _ _ _ => False) w0 mb NB L TP cnt w' := by
  obtain ⟨arr, hB, hr⟩ := h.mblk
  refine { h with ext := (h.ext.trans e).mono (fun k hk hh => by rcases hh with hh | hh; exact hh; have := (hg k hh).1; omega), mblk := ⟨arr, hB.ext e (fun hh => ?_), hr⟩, ok := fun n b hn => ⟨(h.ok n b hn).1, (h.ok n b hn).2.ext e (fun hh => ?_)⟩, extra := fun _ _ _ hh => hh.elim }
  · obtain ⟨_, c, ty, hb, h1, _⟩ := hg _ hh
    exact hb.ne hB h1 rfl
  · obtain ⟨_, c, ty, hb, _, h2, h3⟩ := hg _ hh
    exact (h.ok n b hn).2.notX hb h2 h3 rfl
/-- one of the transactions' maps set -/
theorem Mg.setTx (h : Mg (fun _ _ _ => False) w0 mb NB L TP cnt wr) {p : Nat} (hp : p < 16) (o : Option Nat) : Mg (fun _ _ _ => False) w0 mb NB L (fun q => if q = p then o else TP q) cnt (wr.setCell ⟨mb, 2144 + p * 66, none⟩ (.map o)) := by
  obtain ⟨arr, hB, hs, hg, ht, hpp, htp⟩ := h.mblk
  have e := Ext.set wr ⟨mb, 2144 + p * 66, none⟩ (.map o)
  refine { h with ext := (h.ext.trans e).mono (fun k hk hh => by rcases hh with hh | hh; exact hh; have := h.mbf; simp only at hh; omega), mblk := ⟨_, hB.same _ _, by simpa using hs, hg.set (by omega) _, ?_, fun q hq => ?_, fun q hq => ?_⟩, ok := fun n b hn => ⟨(h.ok n b hn).1, (h.ok n b hn).2.ext e (fun hh => (h.ok n b hn).2.notMb hB hh.symm)⟩, extra := fun _ _ _ hh => hh.elim }
  · rw [Array.getElem?_setIfInBounds_ne (by omega)]; exact ht
  · rw [Array.getElem?_setIfInBounds_ne (by omega)]; exact hpp q hq
  · rw [Array.getElem?_setIfInBounds]
    by_cases hqp : q = p
    · subst hqp
      rw [if_pos (by omega), if_pos (by omega)]; simp
    · rw [if_neg (by omega)]; simp only [hqp, if_false]; exact htp q hq
end

/-- the transaction's state, while its intents are laid -/
def tbC (tx : Nat) (v : Value) : Array Value := #[.int .u64 (tx : Nat), .slice none 0 0, v, .pointer none, .int .i64 0, .pointer none]
def TSt (w : World) (mb : Nat) (NB : Nd → Option Nat) (L : Rs → List (Nat × Nat)) (cnt tb tx : Nat) (v : Value) (l : List (Rs × Nat)) (wr : World) : Prop :=
  Mg (fun _ _ _ => False) w mb NB L (fun _ => none) cnt wr ∧ Blk wr tb (tbC tx v) 89 ∧ w.heap.size ≤ tb ∧ wr.ownsRow w.heap.size 93 6 v l.length (flat l)
theorem owns_ext {w w' : World} {B e s n : Nat} {v : Value} {xs : List Value} (h : w.ownsRow B e s v n xs) (x : Ext (fun _ => False) w w') : w'.ownsRow B e s v n xs := by
  refine ⟨h.1, ?_⟩
  rcases h.2 with h | ⟨g, cap, cur, hv, hb, hg, hr⟩
  · exact .inl h
  · have hB : Blk w g cur e := hg
    exact .inr ⟨g, cap, cur, hv, hb, hB.ext x id, hr⟩
theorem TSt.ext {w : World} {mb : Nat} {NB : Nd → Option Nat} {L : Rs → List (Nat × Nat)} {cnt tb tx : Nat} {v : Value} {l : List (Rs × Nat)} {wr w' : World} (h : TSt w mb NB L cnt tb tx v l wr) (x : Ext (fun _ => False) wr w') : TSt w mb NB L cnt tb tx v l w' :=
  ⟨h.1.ext0 x, h.2.1.ext x id, h.2.2.1, owns_ext h.2.2.2 x⟩
/-- the append, then the store -/
theorem TSt.app {w : World} {mb : Nat} {NB : Nd → Option Nat} {L : Rs → List (Nat × Nat)} {cnt tb tx : Nat} {v : Value} {l : List (Rs × Nat)} {wr w' : World} (h : TSt w mb NB L cnt tb tx v l wr) (x : Rs × Nat) {v' : Value} (ho : w'.ownsRow w.heap.size 93 6 v' (l.length + 1) (flat l ++ el6 x)) (hg : wr.grownBy w' v.ownBlock) :
    TSt w mb NB L cnt tb tx v' (l ++ [x]) (w'.setCell ⟨tb, 2, none⟩ v') ∧ Blk w' tb (tbC tx v) 89 := by
  have hrow : ∀ g, v.ownBlock = some g → w.heap.size ≤ g ∧ ∃ c ty, Blk wr g c ty ∧ ty = 93 := by
    intro g hgg
    rcases h.2.2.2.2 with ⟨rfl, _⟩ | ⟨g', cap, cur, rfl, hb, hB, _⟩
    · cases hgg
    · injection hgg with hgg
      subst hgg
      exact ⟨hb, cur, 93, hB, rfl⟩
  have hM := h.1.far (Ext.grown hg) (fun g hgg => by obtain ⟨h1, c, ty, h2, rfl⟩ := hrow g hgg; exact ⟨h1, c, _, h2, by decide, by decide, by decide⟩)
  have hT : Blk w' tb (tbC tx v) 89 := h.2.1.ext (Ext.grown hg) (fun hh => by obtain ⟨_, c, ty, h2, rfl⟩ := hrow _ hh; exact h.2.1.ne h2 (by decide) rfl)
  refine ⟨⟨hM.far (r := some tb) ((Ext.set w' ⟨tb, 2, none⟩ v').mono (fun k _ e => by rw [e])) (fun g hgg => ?_), hT.same 2 v', h.2.2.1, ?_⟩, hT⟩
  · injection hgg with hgg
    subst hgg
    exact ⟨h.2.2.1, _, _, hT, by decide, by decide, by decide⟩
  · rw [flat_snoc, List.length_append]
    refine ⟨ho.1, ?_⟩
    rcases ho.2 with ho | ⟨g, cap, cur, hv, hb, hB, hr⟩
    · exact .inl ho
    · have hB' : Blk w' g cur 93 := hB
      exact .inr ⟨g, cap, cur, hv, hb, hB'.other _ _ (fun e => hT.ne hB' (by decide) e.symm), hr⟩
end Go.Proofs.YbulkdtuwC
