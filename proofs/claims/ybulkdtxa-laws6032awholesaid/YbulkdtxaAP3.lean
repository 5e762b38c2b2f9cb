import Derived.Test.YbulkdtxaAX6
namespace Go.Proofs.YbulkdtxaA
open Go.RowKit RawMap

theorem nx_len : ∀ (n : Nat) (l : List UInt8), l.length ≤ n → (nx l).length ≤ l.length + 1
  | n, l, hn => by
    rw [nx_eq]
    by_cases h : tlS l = []
    · rw [if_pos h]; simp
    · rw [if_neg h]
      have h1 := tlS_len h
      match n with
      | 0 => omega
      | n + 1 =>
        have := nx_len n (tlS l) (by omega)
        simp only [List.length_cons]
        omega
theorem flat_len {f : Nat → List Nat} {B : Nat} (h : ∀ j, (f j).length ≤ B) : ∀ js : List Nat, (js.flatMap f).length ≤ js.length * B
  | [] => by simp
  | j :: js => by
    have h1 := flat_len h js
    have h2 := h j
    simp only [List.flatMap_cons, List.length_append, List.length_cons, Nat.add_mul, Nat.one_mul]
    omega
theorem later_len {low : List (List UInt8)} (h : ∀ t ∈ low, t.length ≤ 1048576) (s : List UInt8) : (conOf low (.later s)).length ≤ low.length * 1048576 := by
  have := flat_len (f := fun j => List.replicate ((nx (low.getD j [])).tail.count s) j) (B := 1048576) (fun j => by
    rw [List.length_replicate]
    have h1 : (low.getD j []).length ≤ 1048576 := by
      rw [List.getD_eq_getElem?_getD]
      cases hj : low[j]? with
      | none => simp
      | some t => simp only [Option.getD_some]; exact h t (List.mem_of_getElem? hj)
    have h2 := nx_len _ _ (Nat.le_refl (low.getD j []).length)
    have h3 : (nx (low.getD j [])).tail.count s ≤ (nx (low.getD j [])).tail.length := List.count_le_length
    rw [List.length_tail] at h3
    omega) (List.range low.length)
  rw [List.length_range] at this
  exact this
theorem first_len (low : List (List UInt8)) (s : List UInt8) : (conOf low (.first s)).length ≤ low.length := by
  have := List.length_filter_le (fun j => decide (hdS (low.getD j []) = s)) (List.range low.length)
  rw [List.length_range] at this
  exact this
theorem setcon_first (low : List (List UInt8)) (s : List UInt8) : (setCon (conOf low) .all low.length (.first s)).length ≤ low.length := by
  unfold setCon
  rw [if_neg (by simp)]
  exact first_len low s
theorem mid_later_len {low : List (List UInt8)} (h : ∀ t ∈ low, t.length ≤ 1048576) (t : List UInt8) (L : List (List UInt8)) (s : List UInt8) : (midCon low t L (.later s)).length ≤ low.length * 1048576 + L.length := by
  have h1 := later_len h s
  have h2 : L.count s ≤ L.length := List.count_le_length
  simp only [midCon, List.length_append, List.length_replicate]
  omega
theorem ddup_mem : ∀ (L acc : List (List UInt8)) (t : List UInt8), t ∈ ddup acc L → t ∈ acc ∨ ∃ x ∈ L, t = lwS x
  | [], acc, t, h => .inl h
  | x :: L, acc, t, h => by
    rcases ddup_mem L _ t h with h | ⟨y, hy, rfl⟩
    · by_cases hx : lwS x ∈ acc
      · rw [if_pos hx] at h; exact .inl h
      · rw [if_neg hx] at h
        rcases List.mem_append.1 h with h | h
        · exact .inl h
        · exact .inr ⟨x, by simp, by simpa using h⟩
    · exact .inr ⟨y, by simp [hy], rfl⟩
theorem ddup_append (acc L : List (List UInt8)) (t : List UInt8) : ddup acc (L ++ [t]) = if lwS t ∈ ddup acc L then ddup acc L else ddup acc L ++ [lwS t] := by
  induction L generalizing acc with
  | nil => rfl
  | cons x L ih => exact ih _
theorem ddup_next {tags : List (List UInt8)} {i : Nat} {tg : List UInt8} (hi : i < tags.length) (h : tags[i] = tg) : ddup [] (tags.take (i + 1)) = if lwS tg ∈ ddup [] (tags.take i) then ddup [] (tags.take i) else ddup [] (tags.take i) ++ [lwS tg] := by
  rw [List.take_succ_eq_append_getElem hi, ddup_append, h]
theorem MSt.lens {w : World} {xb fb lb sb k nm : Nat} {low sl : List (List UInt8)} {con : Kd → List Nat} {wr : World} (h : MSt w xb fb lb sb low sl con k nm wr) : ∃ a c, wr.cell? ⟨xb, 1, none⟩ = some (.slice a low.length c) := by
  obtain ⟨vw, vt, ws, row, fm, lm, hI, hl, hs, hx⟩ := h
  obtain ⟨a, c, hv⟩ := hI.ownT.form
  exact ⟨a, c, by rw [hI.xblk.cell]; simp at hv; rw [hv]; rfl⟩
theorem ddup_len (acc L : List (List UInt8)) : (ddup acc L).length ≤ acc.length + L.length := by
  induction L generalizing acc with
  | nil => simp [ddup]
  | cons x L ih =>
    have := ih (if lwS x ∈ acc then acc else acc ++ [lwS x])
    unfold ddup
    refine Nat.le_trans this ?_
    by_cases h : lwS x ∈ acc <;> simp [h] <;> omega
theorem inf3 : ∃ i, Yba.prog.info? 3 = some i ∧ i.zero = some (.int .i64 0) ∧ i.size = 1 ∧ i.bytes = 8 := ⟨Yba.t3, by kernel_rfl, by kernel_rfl, by kernel_rfl, by kernel_rfl⟩
section
variable {w : World} {xb fb lb : Nat} {x0 x1 x2 vw vt : Value} {ws low : List (List UInt8)} {row : Kd → Option Value} {con : Kd → List Nat} {nm : Nat} {fm lm : Lit → Option Value} {wr : World}
theorem Idx.cells3 (h : Idx w xb fb lb x0 x1 x2 vw vt ws low row con nm fm lm wr) : wr.cell? ⟨xb, 0, none⟩ = some x0 ∧ wr.cell? ⟨xb, 1, none⟩ = some x1 ∧ wr.cell? ⟨xb, 2, none⟩ = some x2 := ⟨h.xblk.cell 0, h.xblk.cell 1, h.xblk.cell 2⟩
/-- the struct's cells while a row of numbers grows -/
theorem Idx.cellKept (h : Idx w xb fb lb x0 x1 x2 vw vt ws low row con nm fm lm wr) (k : Kd) {R : Value} (hR : (row k).getD nilS = R) {w2 : World} {ob : Obj} (hg : (wr.alloc ob).grownBy w2 R.ownBlock) (i : Nat) : w2.cell? ⟨xb, i, none⟩ = (#[x0, x1, x2, .map (some fb), .map (some lb)] : Array Value)[i]? := by
  subst hR
  have ha := h.alloc ob
  have hb : Blk w2 xb #[x0, x1, x2, .map (some fb), .map (some lb)] 36 := ha.xblk.ext (Ext.grown hg) (fun e => by
    obtain ⟨_, c, hc⟩ := (ha.fam.ownD k).lt e
    exact hc.ne ha.xblk (by decide) rfl)
  exact hb.cell i
end
end Go.Proofs.YbulkdtxaA
