import Derived.Test.YbulkdtxaAP3
import Derived.Test.YbulkdtxaAShelf
namespace Go.Proofs.YbulkdtxaA
open Go.RowKit RawMap

/-- v is a slice of these strings -/
def Holds (w : World) (v : Value) (L : List (List UInt8)) : Prop := ∃ a c, v = .slice a L.length c ∧ (L ≠ [] → ∃ b off, a = some ⟨b, off, none⟩ ∧ ∀ j s, L[j]? = some s → w.cell? ⟨b, off + j, none⟩ = some (encS s))
/-- v is a slice of these numbers -/
def HoldsI (w : World) (v : Value) (L : List Nat) : Prop := ∃ a c, v = .slice a L.length c ∧ (L ≠ [] → ∃ b off, a = some ⟨b, off, none⟩ ∧ ∀ j s, L[j]? = some s → w.cell? ⟨b, off + j, none⟩ = some (num s))
theorem Holds.ext {w w' : World} {v : Value} {L : List (List UInt8)} (h : Holds w v L) (e : Ext (fun _ => False) w w') : Holds w' v L := by
  obtain ⟨a, c, rfl, h⟩ := h
  refine ⟨a, c, rfl, fun hn => ?_⟩
  obtain ⟨b, off, rfl, hc⟩ := h hn
  exact ⟨b, off, rfl, fun j s hj => e.cell (hc j s hj) id⟩
theorem HoldsI.ext {w w' : World} {v : Value} {L : List Nat} (h : HoldsI w v L) (e : Ext (fun _ => False) w w') : HoldsI w' v L := by
  obtain ⟨a, c, rfl, h⟩ := h
  refine ⟨a, c, rfl, fun hn => ?_⟩
  obtain ⟨b, off, rfl, hc⟩ := h hn
  exact ⟨b, off, rfl, fun j s hj => e.cell (hc j s hj) id⟩
theorem own_at {w : World} {e : TypeId} {v : Value} {xs : List Value} (h : Own w e v xs) (hn : xs ≠ []) : ∃ g c, v = .slice (some ⟨g, 0, none⟩) xs.length c ∧ xs.length ≤ c ∧ ∀ j x, xs[j]? = some x → w.cell? ⟨g, j, none⟩ = some x := by
  rcases h with ⟨_, h⟩ | ⟨g, c, cur, rfl, hb, h1, h2, h3, h4⟩
  · exact absurd h hn
  · refine ⟨g, c, rfl, h1, fun j x hx => ?_⟩
    rw [hb.cell]
    rw [← h4, List.getElem?_take] at hx
    split at hx
    · simpa using hx
    · cases hx
theorem Own.holds {w : World} {v : Value} {L : List (List UInt8)} (h : Own w 9 v (L.map encS)) : Holds w v L := by
  obtain ⟨a, c, hv⟩ := h.form
  rw [List.length_map] at hv
  refine ⟨a, c, hv, fun hn => ?_⟩
  obtain ⟨g, c', hv', _, hc⟩ := own_at h (by simpa using hn)
  rw [hv] at hv'
  injection hv' with e1 e2 e3
  exact ⟨g, 0, e1, fun j s hs => by rw [Nat.zero_add]; exact hc j _ (by rw [List.getElem?_map, hs]; rfl)⟩
theorem Own.holdsI {w : World} {v : Value} {L : List Nat} (h : Own w 3 v (L.map num)) : HoldsI w v L := by
  obtain ⟨a, c, hv⟩ := h.form
  rw [List.length_map] at hv
  refine ⟨a, c, hv, fun hn => ?_⟩
  obtain ⟨g, c', hv', _, hc⟩ := own_at h (by simpa using hn)
  rw [hv] at hv'
  injection hv' with e1 e2 e3
  exact ⟨g, 0, e1, fun j s hs => by rw [Nat.zero_add]; exact hc j _ (by rw [List.getElem?_map, hs]; rfl)⟩

theorem map_str_inj {L M : List (List UInt8)} (h : L.map str = M.map str) : L = M := by
  have : Function.Injective str := fun a b h => str_inj h
  exact (List.map_inj_right (fun a b h => this h)).1 h

theorem str_getD {L : List (List UInt8)} {j : Nat} (hj : j < L.length) : (L.map str).getD j ByteArray.empty = str L[j] := by
  rw [List.getD_eq_getElem?_getD, List.getElem?_map, List.getElem?_eq_getElem hj]; rfl

/-- slices.Equal at []string -/
theorem equal_any {w : World} {v1 v2 : Value} {L M : List (List UInt8)} (h1 : Holds w v1 L) (h2 : Holds w v2 M) (hL : L.length ≤ 4096) (hM : M.length ≤ 4096) :
    Calls Yba.prog 11 #[v1, v2] w fun e w' => e = .returned (.bool (decide (L = M))) ∧ ∃ q, w' = w.drewN q := by
  obtain ⟨a1, c1, rfl, h1⟩ := h1
  obtain ⟨a2, c2, rfl, h2⟩ := h2
  by_cases hl : L.length = M.length
  · by_cases h0 : L = []
    · subst h0
      have hm : M = [] := List.eq_nil_of_length_eq_zero hl.symm
      subst hm
      refine (Yba.slices_Equal_string_empty a1 a2 c1 0 c2 w (by omega)).mono ?_
      rintro e w' ⟨rfl, rfl⟩
      exact ⟨rfl, 0, rfl⟩
    · have hm : M ≠ [] := fun e => h0 (List.eq_nil_of_length_eq_zero (by rw [hl, e]; rfl))
      obtain ⟨b, off, rfl, hc⟩ := h1 h0
      obtain ⟨b', off', rfl, hc'⟩ := h2 hm
      refine (Yba.slices_Equal_string b off L.length c1 b' off' M.length c2 (L.map str) (M.map str) w (by simp) (by simp) (by omega) (by omega) (fun j hj => ?_) (fun j hj => ?_)).mono ?_
      · have hj' : j < L.length := by simpa using hj
        rw [str_getD hj']
        exact hc j _ (List.getElem?_eq_getElem hj')
      · have hj' : j < M.length := by simpa using hj
        rw [str_getD hj']
        exact hc' j _ (List.getElem?_eq_getElem hj')
      · rintro e w' ⟨rfl, hq⟩
        refine ⟨?_, hq⟩
        congr 2
        rw [List.take_of_length_le (by simp), List.take_of_length_le (by simp)]
        by_cases he : L = M
        · subst he; simp
        · rw [decide_eq_false he, decide_eq_false (fun e => he (map_str_inj e))]
  · refine (Yba.slices_Equal_string_lens a1 a2 L.length c1 M.length c2 w hl).mono ?_
    rintro e w' ⟨rfl, rfl⟩
    refine ⟨?_, 0, rfl⟩
    rw [decide_eq_false (fun e => hl (by rw [e]))]

theorem num_getD {L : List Nat} {j : Nat} (hj : j < L.length) : (L.map Int.ofNat).getD j 0 = (L[j] : Int) := by
  rw [List.getD_eq_getElem?_getD, List.getElem?_map, List.getElem?_eq_getElem hj]; rfl
/-- slices.Equal at []int -/
theorem equalI_any {w : World} {v1 v2 : Value} {L M : List Nat} (h1 : HoldsI w v1 L) (h2 : HoldsI w v2 M) (hL : L.length ≤ 9223372036854775807) (hM : M.length ≤ 9223372036854775807) :
    Calls Yba.prog 10 #[v1, v2] w fun e w' => e = .returned (.bool (decide (L = M))) ∧ ∃ q, w' = w.drewN q := by
  obtain ⟨a1, c1, rfl, h1⟩ := h1
  obtain ⟨a2, c2, rfl, h2⟩ := h2
  by_cases hl : L.length = M.length
  · by_cases h0 : L = []
    · subst h0
      have hm : M = [] := List.eq_nil_of_length_eq_zero hl.symm
      subst hm
      refine (Yba.slices_Equal_int_empty a1 a2 c1 0 c2 w (by omega)).mono ?_
      rintro e w' ⟨rfl, rfl⟩
      exact ⟨rfl, 0, rfl⟩
    · have hm : M ≠ [] := fun e => h0 (List.eq_nil_of_length_eq_zero (by rw [hl, e]; rfl))
      obtain ⟨b, off, rfl, hc⟩ := h1 h0
      obtain ⟨b', off', rfl, hc'⟩ := h2 hm
      refine (Yba.slices_Equal_int b off L.length c1 b' off' M.length c2 (L.map Int.ofNat) (M.map Int.ofNat) w (by simp) (by simp) (by omega) (by omega) (fun j hj => ?_) (fun j hj => ?_)).mono ?_
      · have hj' : j < L.length := by simpa using hj
        rw [num_getD hj']
        exact hc j _ (List.getElem?_eq_getElem hj')
      · have hj' : j < M.length := by simpa using hj
        rw [num_getD hj']
        exact hc' j _ (List.getElem?_eq_getElem hj')
      · rintro e w' ⟨rfl, hq⟩
        refine ⟨?_, hq⟩
        congr 2
        rw [List.take_of_length_le (by simp), List.take_of_length_le (by simp)]
        by_cases he : L = M
        · subst he; simp
        · rw [decide_eq_false he, beq_eq_false_iff_ne]
          intro e
          exact he ((List.map_inj_right (fun a b h => by injection h)).1 e)
  · refine (Yba.slices_Equal_int_lens a1 a2 L.length c1 M.length c2 w hl).mono ?_
    rintro e w' ⟨rfl, rfl⟩
    refine ⟨?_, 0, rfl⟩
    rw [decide_eq_false (fun e => hl (by rw [e]))]

/-- slices.Clone -/
def Cloned (w : World) (p : Option Addr) (L : List (List UInt8)) (e : Ending) (w' : World) : Prop := ∃ a c, e = .returned (.slice a L.length c) ∧ a.isNone = p.isNone ∧ Holds w' (.slice a L.length c) L ∧ Ext (fun _ => False) w w'
theorem ext_below {w w' : World} (h : Below w.heap.size w w') : Ext (fun _ => False) w w' := (Ext.of_below h).mono (fun k hk e => by omega)
theorem clone_any {w : World} {p : Option Addr} {tc : Nat} {L : List (List UInt8)} (h : Holds w (.slice p L.length tc) L) (hL : L.length ≤ 4096) : Calls Yba.prog 5 #[.slice p L.length tc] w (Cloned w p L) := by
  cases hp : p with
  | none =>
    have h0 : L = [] := by
      apply Classical.byContradiction
      intro hn
      obtain ⟨a, c, hv, h⟩ := h
      obtain ⟨b, off, e, _⟩ := h hn
      injection hv with e1 e2 e3
      rw [← e1, hp] at e; cases e
    subst h0
    refine (Yba.slices_Clone_string_nil 0 tc w).mono ?_
    rintro e w' ⟨rfl, rfl⟩
    exact ⟨none, 0, rfl, rfl, ⟨none, 0, rfl, fun h => absurd rfl h⟩, ⟨rfl, rfl, rfl, Nat.le_refl _, fun _ _ _ => rfl⟩⟩
  | some a =>
    have fin : ∀ (v : Value) (w' : World), w'.ownsRow w.heap.size 9 1 v L.length (L.map encS) → v ≠ .slice none 0 0 → Below w.heap.size w w' → Cloned w (some a) L (.returned v) w' := by
      intro v w' ho hv hb
      rcases ho.2 with ⟨h1, h2⟩ | ⟨g, cap, cur, rfl, _, hB, hnc, hcm, hcs, ht⟩
      · exact absurd h1 hv
      · have hO : Own w' 9 (.slice (some ⟨g, 0, none⟩) L.length cap) (L.map encS) := .inr ⟨g, cap, cur, by rw [List.length_map], hB, by rw [List.length_map]; omega, hcm, by omega, by rw [List.length_map]; simpa using ht⟩
        exact ⟨some ⟨g, 0, none⟩, cap, rfl, rfl, hO.holds, ext_below hb⟩
    by_cases h0 : L = []
    · subst h0
      refine (Yba.slices_Clone_string_zero a tc w).mono ?_
      rintro e w' ⟨v, rfl, ho, hv, hb⟩
      exact fin v w' ho hv hb
    · obtain ⟨a', c', hv, h⟩ := h
      obtain ⟨b, off, ha, hc⟩ := h h0
      injection hv with e1 e2 e3
      rw [← e1, hp] at ha
      injection ha with ha
      subst ha
      refine (Yba.slices_Clone_string b off L.length tc (L.map str) w (by simp) (by omega) (fun j hj => ?_)).mono ?_
      · have hj' : j < L.length := by simpa using hj
        rw [str_getD hj']
        exact hc j _ (List.getElem?_eq_getElem hj')
      · rintro e w' ⟨v, rfl, ho, hv, hb⟩
        refine fin v w' ?_ hv hb
        rw [List.take_of_length_le (by simp), List.map_map] at ho
        exact ho
end Go.Proofs.YbulkdtxaA
