import Derived.Test.YbulkdtxaAW1
namespace Go.Proofs.YbulkdtxaA

theorem tlS_len {l : List UInt8} (h : tlS l ≠ []) : (tlS l).length < l.length := by
  have h0 : (tlS l).length ≠ 0 := fun e => h (List.eq_nil_of_length_eq_zero e)
  unfold tlS at h0 ⊢
  rw [List.length_drop] at h0 ⊢
  have := (List.dropWhile_sublist (l := l) (fun c => decide (c ≠ 45))).length_le
  omega
/-- the subtags as nextSubtag gives them -/
def nx (l : List UInt8) : List (List UInt8) := hdS l :: (if _h : tlS l = [] then [] else nx (tlS l))
termination_by l.length
decreasing_by exact tlS_len _h
theorem nx_eq (l : List UInt8) : nx l = hdS l :: (if tlS l = [] then [] else nx (tlS l)) := by
  rw [nx]
  by_cases h : tlS l = [] <;> simp [h]

theorem mem_cut {l : List UInt8} (h : (45 : UInt8) ∈ l) : ∃ a b, l = a ++ 45 :: b ∧ ∀ x ∈ a, x ≠ 45 := by
  induction l with
  | nil => simp at h
  | cons c l ih =>
    by_cases hc : c = 45
    · exact ⟨[], l, by simp [hc], by simp⟩
    · have : (45 : UInt8) ∈ l := by
        rcases List.mem_cons.1 h with h | h
        · exact absurd h.symm hc
        · exact h
      obtain ⟨a, b, rfl, hab⟩ := ih this
      refine ⟨c :: a, b, rfl, ?_⟩
      intro x hx
      rcases List.mem_cons.1 hx with h | h
      · rw [h]; exact hc
      · exact hab x h
theorem pcs_dec {l : List UInt8} (h : (45 : UInt8) ∈ l) : (tlS l).length < l.length := by
  obtain ⟨a, b, rfl, hab⟩ := mem_cut h
  rw [(cut_list hab).2]
  simp
  omega
/-- the pieces between the dashes -/
def pcs (l : List UInt8) : List (List UInt8) := if _h : (45 : UInt8) ∈ l then hdS l :: pcs (tlS l) else [l]
termination_by l.length
decreasing_by exact pcs_dec _h
theorem pcs_none {l : List UInt8} (h : (45 : UInt8) ∉ l) : pcs l = [l] := by rw [pcs]; simp [h]
theorem pcs_cut {a b : List UInt8} (h : ∀ x ∈ a, x ≠ 45) : pcs (a ++ 45 :: b) = a :: pcs b := by
  rw [pcs]
  simp [(cut_list h).1, (cut_list h).2]
theorem pcs_ne (l : List UInt8) : pcs l ≠ [] := by
  rw [pcs]
  by_cases h : (45 : UInt8) ∈ l <;> simp [h]

/-- a last empty piece behind a dash is dropped -/
def drp (L : List (List UInt8)) : List (List UInt8) := if 1 < L.length ∧ L.getLast? = some [] then L.dropLast else L
theorem nx_pcs : ∀ (n : Nat) (l : List UInt8), l.length ≤ n → nx l = drp (pcs l)
  | n, l, hn => by
    by_cases h : (45 : UInt8) ∈ l
    · obtain ⟨a, b, rfl, hab⟩ := mem_cut h
      rw [nx_eq, (cut_list hab).1, (cut_list hab).2, pcs_cut hab]
      by_cases hb : b = []
      · subst hb
        rw [if_pos rfl, pcs_none (by simp)]
        simp [drp]
      · rw [if_neg hb]
        match n with
        | 0 => simp at hn
        | n + 1 =>
          rw [nx_pcs n b (by simp at hn; omega)]
          have hne := pcs_ne b
          unfold drp
          have hl : (a :: pcs b).getLast? = (pcs b).getLast? := by
            cases hq : pcs b with
            | nil => exact absurd hq hne
            | cons x L => simp [List.getLast?_cons_cons]
          rw [hl]
          by_cases h1 : (pcs b).getLast? = some []
          · have h2 : 1 < (pcs b).length := by
              rcases Nat.lt_or_ge 1 (pcs b).length with h | h
              · exact h
              · exfalso
                have h3 : (45 : UInt8) ∉ b := by
                  intro hm
                  obtain ⟨a', b', rfl, hab'⟩ := mem_cut hm
                  rw [pcs_cut hab'] at h
                  have := List.length_pos_iff.2 (pcs_ne b')
                  simp at h
                  exact pcs_ne b' h
                rw [pcs_none h3] at h1
                simp at h1
                exact hb h1
            rw [if_pos ⟨h2, h1⟩, if_pos ⟨by simp; omega, h1⟩, List.dropLast_cons_of_ne_nil hne]
          · rw [if_neg (fun h => h1 h.2), if_neg (fun h => h1 h.2)]
    · have hc := cut_none (l := l) (fun j hj e => h (e ▸ List.getElem_mem hj))
      rw [nx_eq, hc.1, hc.2, if_pos rfl, pcs_none h]
      simp [drp]
end Go.Proofs.YbulkdtxaA
