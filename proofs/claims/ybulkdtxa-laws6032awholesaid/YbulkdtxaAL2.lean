import Derived.Test.YbulkdtxaAL1
namespace Go.Proofs.YbulkdtxaA
open Go.RowKit RawMap

theorem Ext.refl (w : World) : Ext (fun _ => False) w w := ⟨rfl, rfl, rfl, Nat.le_refl _, fun _ _ _ => rfl⟩
theorem Ext.comp {a b c : World} (h : Ext (fun _ => False) a b) (k : Ext (fun _ => False) b c) : Ext (fun _ => False) a c := (h.trans k).mono (fun _ _ e => by rcases e with e | e <;> exact e)

/-- the law's table of subtags: the first i rows are laid -/
def Parts (w3 : World) (low : List (List UInt8)) (pb i : Nat) (wr : World) : Prop :=
  ∃ arr, Blk wr pb arr 22 ∧ arr.size = low.length ∧ w3.heap.size ≤ pb ∧ Ext (fun _ => False) w3 wr ∧ ∀ j, j < i → ∃ v, arr[j]? = some v ∧ Own wr 9 v ((nx (low.getD j [])).map encS)

theorem Parts.ext {w3 : World} {low : List (List UInt8)} {pb i : Nat} {wr w' : World} {ex : Nat → Prop} (h : Parts w3 low pb i wr) (e : Ext ex wr w') (h0 : ∀ k, k < w3.heap.size → ¬ ex k) (hx : ∀ g c t, Blk wr g c t → t ≠ 3 → ¬ ex g) : Parts w3 low pb i w' := by
  obtain ⟨arr, hb, hs, hp, hE, hr⟩ := h
  refine ⟨arr, hb.ext e (hx _ _ _ hb (by decide)), hs, hp, (hE.trans e).mono (fun k hk hh => by rcases hh with hh | hh; exact hh; exact h0 k hk hh), fun j hj => ?_⟩
  obtain ⟨v, h1, h2⟩ := hr j hj
  exact ⟨v, h1, h2.ext e (fun g hg => by obtain ⟨_, c, hc⟩ := h2.lt hg; exact hx _ _ _ hc (by decide))⟩
theorem Parts.ext0 {w3 : World} {low : List (List UInt8)} {pb i : Nat} {wr w' : World} (h : Parts w3 low pb i wr) (e : Ext (fun _ => False) wr w') : Parts w3 low pb i w' := h.ext e (fun _ _ => id) (fun _ _ _ _ _ => id)
theorem Parts.store {w3 : World} {low : List (List UInt8)} {pb i : Nat} {wr : World} (h : Parts w3 low pb i wr) (hi : i < low.length) {v : Value} (hv : Own wr 9 v ((nx (low.getD i [])).map encS)) : Parts w3 low pb (i + 1) (wr.setCell ⟨pb, i, none⟩ v) := by
  obtain ⟨arr, hb, hs, hp, hE, hr⟩ := h
  have e := Ext.set wr ⟨pb, i, none⟩ v
  have keep : ∀ {v' : Value} {xs : List Value}, Own wr 9 v' xs → Own (wr.setCell ⟨pb, i, none⟩ v) 9 v' xs := fun ho => ho.ext e (fun g hg hh => by obtain ⟨_, c, hc⟩ := ho.lt hg; exact hc.ne hb (by decide) hh)
  refine ⟨_, hb.same i v, by simpa using hs, hp, (hE.trans e).mono (fun k hk hh => by rcases hh with hh | hh; exact hh; simp only at hh; omega), fun j hj => ?_⟩
  rw [Array.getElem?_setIfInBounds]
  by_cases hij : i = j
  · subst hij
    rw [if_pos rfl, if_pos (by omega)]
    exact ⟨v, rfl, keep hv⟩
  · rw [if_neg hij]
    obtain ⟨v', h1, h2⟩ := hr j (by omega)
    exact ⟨v', h1, keep h2⟩
/-- parts[j], and its elements -/
theorem Parts.at {w3 : World} {low : List (List UInt8)} {pb i : Nat} {wr : World} (h : Parts w3 low pb i wr) {j : Nat} (hj : j < i) : ∃ g c, wr.cell? ⟨pb, j, none⟩ = some (.slice (some ⟨g, 0, none⟩) (nx (low.getD j [])).length c) ∧ (nx (low.getD j [])).length ≤ c ∧ ∀ p s, (nx (low.getD j []))[p]? = some s → wr.cell? ⟨g, p, none⟩ = some (.string (str s)) := by
  obtain ⟨arr, hb, hs, hp, hE, hr⟩ := h
  obtain ⟨v, h1, h2⟩ := hr j hj
  obtain ⟨g, c, hv, hc, hcell⟩ := own_at h2 (by rw [nx_eq]; simp)
  rw [List.length_map] at hv hc
  refine ⟨g, c, by rw [hb.cell, h1, hv], hc, fun p s hs => hcell p _ (by rw [List.getElem?_map, hs]; rfl)⟩

/-- the best row so far -/
structure BSt (w3 : World) (low : List (List UInt8)) (pb : Nat) (vs : Value) (r : List UInt8) (vb : Value) (best : List Nat) (wr : World) : Prop where
  parts : Parts w3 low pb low.length wr
  subs : Own wr 9 vs ((nx r).map encS)
  row : Own wr 3 vb (best.map num)
  fresh : ∀ g, vb.ownBlock = some g → w3.heap.size ≤ g

/-- a second row beside it -/
structure LSt (w3 : World) (low : List (List UInt8)) (pb : Nat) (vs : Value) (r : List UInt8) (vb : Value) (best : List Nat) (vl : Value) (l : List Nat) (wr : World) : Prop where
  base : BSt w3 low pb vs r vb best wr
  row : Own wr 3 vl (l.map num)
  fresh : ∀ g, vl.ownBlock = some g → w3.heap.size ≤ g
  apart : ∀ g, vl.ownBlock = some g → vb.ownBlock ≠ some g

section
variable {w3 : World} {low : List (List UInt8)} {pb : Nat} {vs : Value} {r : List UInt8} {vb vl : Value} {best l : List Nat} {wr : World}

theorem BSt.ext0 {w' : World} (h : BSt w3 low pb vs r vb best wr) (e : Ext (fun _ => False) wr w') : BSt w3 low pb vs r vb best w' :=
  ⟨h.parts.ext0 e, h.subs.ext e (fun _ _ => id), h.row.ext e (fun _ _ => id), h.fresh⟩
theorem LSt.ext0 {w' : World} (h : LSt w3 low pb vs r vb best vl l wr) (e : Ext (fun _ => False) wr w') : LSt w3 low pb vs r vb best vl l w' :=
  ⟨h.base.ext0 e, h.row.ext e (fun _ _ => id), h.fresh, h.apart⟩
theorem BSt.le (h : BSt w3 low pb vs r vb best wr) : w3.heap.size ≤ wr.heap.size := by
  obtain ⟨arr, _, _, _, hE, _⟩ := h.parts
  exact hE.size
theorem far3 {v : Value} {xs : List Value} (ho : Own wr 3 v xs) {g : Nat} {c : Array Value} {t : TypeId} (hb : Blk wr g c t) (ht : t ≠ 3) : ¬ (v.ownBlock = some g) := fun hg => by
  obtain ⟨_, c', hc'⟩ := ho.lt hg
  exact hb.ne hc' ht rfl
theorem BSt.app (h : BSt w3 low pb vs r vb best wr) (j : Nat) {ob : Obj} {w2 : World} {v2 : Value} (hO : Own w2 3 v2 (best.map num ++ [num j])) (hg : (wr.alloc ob).grownBy w2 vb.ownBlock)
    (hb : ∃ g', v2.ownBlock = some g' ∧ (vb.ownBlock = some g' ∨ (wr.alloc ob).heap.size ≤ g')) : BSt w3 low pb vs r v2 (best ++ [j]) w2 := by
  have ha := h.ext0 (Ext.alloc wr ob)
  have e := Ext.grown hg
  refine ⟨ha.parts.ext e (fun k hk hh => by have := h.fresh k hh; omega) (fun g c t hB ht => far3 ha.row hB ht), ha.subs.ext e (fun g hgg hh => by obtain ⟨_, c, hc⟩ := ha.subs.lt hgg; exact far3 ha.row hc (by decide) hh), by rw [List.map_append]; exact hO, fun g hgg => ?_⟩
  obtain ⟨g', h1, h2⟩ := hb
  rw [h1] at hgg; injection hgg with hgg; subst hgg
  rcases h2 with h2 | h2
  · exact h.fresh _ h2
  · have := ha.le; omega
theorem LSt.start (h : BSt w3 low pb vs r vb best wr) : LSt w3 low pb vs r vb best (.slice none 0 0) [] wr :=
  ⟨h, .inl ⟨rfl, rfl⟩, (fun _ hg => nomatch hg), (fun _ hg => nomatch hg)⟩
theorem LSt.app (h : LSt w3 low pb vs r vb best vl l wr) (j : Nat) {ob : Obj} {w2 : World} {v2 : Value} (hO : Own w2 3 v2 (l.map num ++ [num j])) (hg : (wr.alloc ob).grownBy w2 vl.ownBlock)
    (hb : ∃ g', v2.ownBlock = some g' ∧ (vl.ownBlock = some g' ∨ (wr.alloc ob).heap.size ≤ g')) : LSt w3 low pb vs r vb best v2 (l ++ [j]) w2 := by
  have ha := h.ext0 (Ext.alloc wr ob)
  have e := Ext.grown hg
  obtain ⟨g', h1, h2⟩ := hb
  refine ⟨⟨ha.base.parts.ext e (fun k hk hh => by have := h.fresh k hh; omega) (fun g c t hB ht => far3 ha.row hB ht), ha.base.subs.ext e (fun g hgg hh => by obtain ⟨_, c, hc⟩ := ha.base.subs.lt hgg; exact far3 ha.row hc (by decide) hh), ha.base.row.ext e (fun g hgg hh => h.apart g hh hgg), h.base.fresh⟩, by rw [List.map_append]; exact hO, fun g hgg => ?_, fun g hgg hh => ?_⟩
  · rw [h1] at hgg; injection hgg with hgg; subst hgg
    rcases h2 with h2 | h2
    · exact h.fresh _ h2
    · have := ha.base.le; omega
  · rw [h1] at hgg; injection hgg with hgg; subst hgg
    rcases h2 with h2 | h2
    · exact h.apart _ h2 hh
    · have := (ha.base.row.lt hh).1; omega
theorem LSt.take (h : LSt w3 low pb vs r vb best vl l wr) : BSt w3 low pb vs r vl l wr := ⟨h.base.parts, h.base.subs, h.row, h.fresh⟩

/-- subs[k] -/
theorem BSt.subAt (h : BSt w3 low pb vs r vb best wr) : ∃ g c, vs = .slice (some ⟨g, 0, none⟩) (nx r).length c ∧ (nx r).length ≤ c ∧ ∀ k s, (nx r)[k]? = some s → wr.cell? ⟨g, k, none⟩ = some (.string (str s)) := by
  obtain ⟨g, c, hv, hc, hcell⟩ := own_at h.subs (by rw [nx_eq]; simp)
  rw [List.length_map] at hv hc
  exact ⟨g, c, hv, hc, fun p s hs => hcell p _ (by rw [List.getElem?_map, hs]; rfl)⟩
end

/-- the row of a later subtag, while it is laid: the tags before j whole, of tag j the subtags 1 .. p-1 -/
def partL (low : List (List UInt8)) (s : List UInt8) (j p : Nat) : List Nat :=
  (List.range j).flatMap (fun j' => List.replicate ((nx (low.getD j' [])).tail.count s) j') ++ List.replicate (((nx (low.getD j [])).tail.take (p - 1)).count s) j
theorem partL_start (low : List (List UInt8)) (s : List UInt8) : partL low s 0 1 = [] := by simp [partL]
theorem partL_hit (low : List (List UInt8)) (s : List UInt8) (j p : Nat) (hp : 1 ≤ p) (h : (nx (low.getD j []))[p]? = some s) : partL low s j (p + 1) = partL low s j p ++ [j] := by
  unfold partL
  have ht : (nx (low.getD j [])).tail[p - 1]? = some s := by rw [List.getElem?_tail, show p - 1 + 1 = p by omega]; exact h
  have hlt : p - 1 < (nx (low.getD j [])).tail.length := by
    rcases Nat.lt_or_ge (p - 1) (nx (low.getD j [])).tail.length with h' | h'
    · exact h'
    · rw [List.getElem?_eq_none h'] at ht; cases ht
  have e : (nx (low.getD j [])).tail[p - 1] = s := by rw [List.getElem?_eq_getElem hlt] at ht; injection ht
  rw [show p + 1 - 1 = p - 1 + 1 by omega, List.take_succ_eq_append_getElem hlt, e, List.count_append]
  simp [List.replicate_succ', List.append_assoc]
theorem partL_miss (low : List (List UInt8)) (s t : List UInt8) (j p : Nat) (hp : 1 ≤ p) (h : (nx (low.getD j []))[p]? = some t) (hn : t ≠ s) : partL low s j (p + 1) = partL low s j p := by
  unfold partL
  have ht : (nx (low.getD j [])).tail[p - 1]? = some t := by rw [List.getElem?_tail, show p - 1 + 1 = p by omega]; exact h
  have hlt : p - 1 < (nx (low.getD j [])).tail.length := by
    rcases Nat.lt_or_ge (p - 1) (nx (low.getD j [])).tail.length with h' | h'
    · exact h'
    · rw [List.getElem?_eq_none h'] at ht; cases ht
  have e : (nx (low.getD j [])).tail[p - 1] = t := by rw [List.getElem?_eq_getElem hlt] at ht; injection ht
  rw [show p + 1 - 1 = p - 1 + 1 by omega, List.take_succ_eq_append_getElem hlt, e, List.count_append, List.count_singleton]
  simp [hn]
theorem partL_next (low : List (List UInt8)) (s : List UInt8) (j p : Nat) (hp : (nx (low.getD j [])).length ≤ p) : partL low s (j + 1) 1 = partL low s j p := by
  unfold partL
  rw [List.range_succ, List.flatMap_append, List.take_of_length_le (l := (nx (low.getD j [])).tail) (by rw [List.length_tail]; omega)]
  simp
theorem partL_end (low : List (List UInt8)) (s : List UInt8) : partL low s low.length 1 = conOf low (.later s) := by
  simp [partL, conOf]
theorem partL_len {low : List (List UInt8)} (h : ∀ t ∈ low, t.length ≤ 1048576) (s : List UInt8) (j p : Nat) : (partL low s j p).length ≤ j * 1048576 + 1048576 := by
  have hb : ∀ j', (nx (low.getD j' [])).tail.length ≤ 1048576 := by
    intro j'
    have h1 : (low.getD j' []).length ≤ 1048576 := by
      rw [List.getD_eq_getElem?_getD]
      cases hj : low[j']? with
      | none => simp
      | some t => simp only [Option.getD_some]; exact h t (List.mem_of_getElem? hj)
    have h2 := nx_len _ _ (Nat.le_refl (low.getD j' []).length)
    rw [List.length_tail]; omega
  have h1 := flat_len (f := fun j' => List.replicate ((nx (low.getD j' [])).tail.count s) j') (B := 1048576) (fun j' => by
    rw [List.length_replicate]
    exact Nat.le_trans List.count_le_length (hb j')) (List.range j)
  have h2 : ((nx (low.getD j [])).tail.take (p - 1)).count s ≤ 1048576 := Nat.le_trans List.count_le_length (Nat.le_trans (by rw [List.length_take]; omega) (hb j))
  rw [List.length_range] at h1
  unfold partL
  rw [List.length_append, List.length_replicate]
  omega

/-- the first row, while it is laid -/
def partF (low : List (List UInt8)) (s : List UInt8) (j : Nat) : List Nat := (List.range j).filter (fun j => decide (hdS (low.getD j []) = s))
theorem partF_hit (low : List (List UInt8)) (j : Nat) : partF low (hdS (low.getD j [])) (j + 1) = partF low (hdS (low.getD j [])) j ++ [j] := by
  simp [partF, List.range_succ, List.filter_append]
theorem partF_miss (low : List (List UInt8)) (s : List UInt8) (j : Nat) (h : hdS (low.getD j []) ≠ s) : partF low s (j + 1) = partF low s j := by
  rw [List.getD_eq_getElem?_getD] at h
  simp [partF, List.range_succ, List.filter_append, h]
theorem partF_len (low : List (List UInt8)) (s : List UInt8) (j : Nat) : (partF low s j).length ≤ j := by
  have := List.length_filter_le (fun j => decide (hdS (low.getD j []) = s)) (List.range j)
  rw [List.length_range] at this
  exact this
end Go.Proofs.YbulkdtxaA
