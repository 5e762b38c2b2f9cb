import Derived.Test.YbulkdtxaAX1
namespace Go.Proofs.YbulkdtxaA

/-- what the rows hold, of a list of tags -/
def conOf (low : List (List UInt8)) : Kd → List Nat
  | .all => List.range low.length
  | .first s => (List.range low.length).filter (fun j => decide (hdS (low.getD j []) = s))
  | .later s => (List.range low.length).flatMap (fun j => List.replicate ((nx (low.getD j [])).tail.count s) j)

theorem getD_snoc {low : List (List UInt8)} {t : List UInt8} {j : Nat} (h : j < low.length) : (low ++ [t]).getD j [] = low.getD j [] := by
  simp [List.getD_eq_getElem?_getD, List.getElem?_append_left h]
theorem getD_last {low : List (List UInt8)} {t : List UInt8} : (low ++ [t]).getD low.length [] = t := by
  simp [List.getD_eq_getElem?_getD]
theorem conOf_all (low : List (List UInt8)) (t : List UInt8) : conOf (low ++ [t]) .all = conOf low .all ++ [low.length] := by
  simp [conOf, List.range_succ]
theorem conOf_first (low : List (List UInt8)) (t s : List UInt8) : conOf (low ++ [t]) (.first s) = conOf low (.first s) ++ (if hdS t = s then [low.length] else []) := by
  simp only [conOf, List.length_append, List.length_cons, List.length_nil, Nat.zero_add, List.range_succ, List.filter_append]
  congr 1
  · apply List.filter_congr
    intro j hj
    rw [getD_snoc (by simpa using hj)]
  · simp only [List.filter_cons, List.filter_nil, getD_last]
    by_cases h : hdS t = s <;> simp [h]
theorem conOf_later (low : List (List UInt8)) (t s : List UInt8) : conOf (low ++ [t]) (.later s) = conOf low (.later s) ++ List.replicate ((nx t).tail.count s) low.length := by
  simp only [conOf, List.length_append, List.length_cons, List.length_nil, Nat.zero_add, List.range_succ, List.flatMap_append]
  congr 1
  · rw [List.flatMap_def, List.flatMap_def]
    congr 1
    apply List.map_congr_left
    intro j hj
    rw [getD_snoc (by simpa using hj)]
  · simp

/-- the rows while one tag's later subtags are laid: those of 'low', then 'all' and 'first', then the subtags L of the new one -/
def midCon (low : List (List UInt8)) (t : List UInt8) (L : List (List UInt8)) : Kd → List Nat
  | .all => conOf (low ++ [t]) .all
  | .first s => conOf (low ++ [t]) (.first s)
  | .later s => conOf low (.later s) ++ List.replicate (L.count s) low.length
theorem mid_step (low : List (List UInt8)) (t : List UInt8) (L : List (List UInt8)) (s : List UInt8) : setCon (midCon low t L) (.later s) low.length = midCon low t (L ++ [s]) := by
  funext k
  unfold setCon
  by_cases h : k = .later s
  · subst h
    simp [midCon, List.replicate_succ']
  · rw [if_neg h]
    cases k with
    | all => rfl
    | first _ => rfl
    | later s' =>
      have : s' ≠ s := fun e => h (by rw [e])
      simp only [midCon, List.count_append]
      rw [List.count_singleton]
      simp [Ne.symm this]
theorem mid_end (low : List (List UInt8)) (t : List UInt8) : midCon low t (nx t).tail = conOf (low ++ [t]) := by
  funext k
  cases k with
  | all => rfl
  | first _ => rfl
  | later s => rw [conOf_later]; rfl
theorem mid_start (low : List (List UInt8)) (t : List UInt8) : setCon (setCon (conOf low) .all low.length) (.first (hdS t)) low.length = midCon low t [] := by
  funext k
  unfold setCon
  cases k with
  | all => simp [midCon, conOf_all]
  | first s =>
    by_cases h : s = hdS t
    · subst h
      simp [midCon, conOf_first]
    · have h' : ¬ hdS t = s := fun e => h e.symm
      simp [midCon, conOf_first, h, h']
  | later s => simp [midCon]
end Go.Proofs.YbulkdtxaA
