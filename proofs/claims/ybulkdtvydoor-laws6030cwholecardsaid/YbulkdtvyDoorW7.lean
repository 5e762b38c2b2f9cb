import Derived.Test.YbulkdtvyDoorW5
import Derived.Test.YbulkdtvyDoorW6
namespace Go.Proofs.YbulkdtvyDoor.M
open Go.RowKit Go.Shelf

/-- the tallies as one row of numbers -/
def qf (t1 t2 t3 t4 t5 t6 u1 u2 u3 u4 u5 u6 : Int) : Nat → Int
  | 2 => t1 | 3 => u1 | 4 => t2 | 5 => u2 | 6 => t3 | 7 => u3 | 8 => t4 | 9 => u4 | 10 => t5 | 11 => u5 | 12 => t6 | 13 => u6 | _ => 0
def repQ (fl : Value) (q : Nat → Int) : Array Value :=
  #[fl, .slice none 0 0, .slice none 0 0, .slice none 0 0, .map none, .string ⟨#[]⟩, .pointer none, .int .i64 0, .int .i64 0, .int .i64 0, .int .i64 0, .int .i64 0, .int .i64 0, .int .i64 0, .int .i64 0, .int .i64 (q 0), .int .i64 (q 1), .int .i64 (q 2), .int .i64 (q 3), .int .i64 (q 4), .int .i64 (q 5), .int .i64 (q 6), .int .i64 (q 7), .int .i64 (q 8), .int .i64 (q 9), .int .i64 (q 10), .int .i64 (q 11), .int .i64 (q 12), .int .i64 (q 13)]
def befQ (q : Nat → Int) : Array Value := #[.int .i64 (q 0), .int .i64 (q 1), .int .i64 (q 2), .int .i64 (q 3), .int .i64 (q 4), .int .i64 (q 5), .int .i64 (q 6), .int .i64 (q 7), .int .i64 (q 8), .int .i64 (q 9), .int .i64 (q 10), .int .i64 (q 11), .int .i64 (q 12), .int .i64 (q 13)]
theorem repQ_at (fl : Value) (q : Nat → Int) (i : Nat) (h : i < 14) : (repQ fl q)[15 + i]? = some (.int .i64 (q i)) := by
  match i, h with
  | 0, _ => rfl
  | 1, _ => rfl
  | 2, _ => rfl
  | 3, _ => rfl
  | 4, _ => rfl
  | 5, _ => rfl
  | 6, _ => rfl
  | 7, _ => rfl
  | 8, _ => rfl
  | 9, _ => rfl
  | 10, _ => rfl
  | 11, _ => rfl
  | 12, _ => rfl
  | 13, _ => rfl
theorem befQ_at (q : Nat → Int) (i : Nat) (h : i < 14) : (befQ q)[i]? = some (.int .i64 (q i)) := by
  match i, h with
  | 0, _ => rfl
  | 1, _ => rfl
  | 2, _ => rfl
  | 3, _ => rfl
  | 4, _ => rfl
  | 5, _ => rfl
  | 6, _ => rfl
  | 7, _ => rfl
  | 8, _ => rfl
  | 9, _ => rfl
  | 10, _ => rfl
  | 11, _ => rfl
  | 12, _ => rfl
  | 13, _ => rfl

/-- the row of findings, one of them counted again -/
def bump (D : Array Value) (l : Nat) (m line : Int) : Array Value := (D.setIfInBounds (l * 6 + 4) (.int .i64 (wrap64 (m + 1)))).setIfInBounds (l * 6 + 5) (.int .i64 line)
def bumpX (xs : List Fd) (l : Nat) (line : Int) : List Fd := xs.set l (xs[l]!.1, xs[l]!.2.1, xs[l]!.2.2.1, xs[l]!.2.2.2.1, wrap64 (xs[l]!.2.2.2.2.1 + 1), line)
theorem enc_q {x : Fd} {q : Nat} {v : Value} (h : (Fd.enc x)[q]? = some v) : q < 6 := by
  have := (List.getElem?_eq_some_iff.1 h).1
  rw [enc_len] at this; exact this
theorem bump_cells {D E : Array Value} {xs : List Fd} {n l : Nat} {line : Int} (hx : xs.length = n) (hF : Filled D xs n n) (hl : l < n) (hE : ∀ i, i < n * 6 → E[i]? = D[i]?) :
    ∀ j, j < (bumpX xs l line).length → ∀ i v, (Fd.enc (bumpX xs l line)[j]!)[i]? = some v → (bump E l (xs[l]!.2.2.2.2.1) line)[0 + j * 6 + i]? = some v := by
  intro j hj i v hv
  have hi := enc_q hv
  have hjn : j < n := by simpa [bumpX, hx] using hj
  have hD := hF.1
  have hEs : n * 6 ≤ E.size := by
    rcases Nat.lt_or_ge E.size (n * 6) with h | h
    · have e := hE E.size h
      rw [Array.getElem?_eq_none (Nat.le_refl _), Array.getElem?_eq_getElem (by omega)] at e
      cases e
    · exact h
  rw [Nat.zero_add]
  by_cases hjl : j = l
  · subst hjl
    have e : (bumpX xs j line)[j]! = (xs[j]!.1, xs[j]!.2.1, xs[j]!.2.2.1, xs[j]!.2.2.2.1, wrap64 (xs[j]!.2.2.2.2.1 + 1), line) := by
      unfold bumpX
      rw [List.getElem!_eq_getElem?_getD, List.getElem?_set_self (by omega)]; rfl
    rw [e] at hv
    have old := hF.2.2 j hl
    unfold bump
    match i, hi with
    | 0, _ => rw [Array.getElem?_setIfInBounds_ne (by omega), Array.getElem?_setIfInBounds_ne (by omega), hE _ (by omega)]; exact old 0 v hv
    | 1, _ => rw [Array.getElem?_setIfInBounds_ne (by omega), Array.getElem?_setIfInBounds_ne (by omega), hE _ (by omega)]; exact old 1 v hv
    | 2, _ => rw [Array.getElem?_setIfInBounds_ne (by omega), Array.getElem?_setIfInBounds_ne (by omega), hE _ (by omega)]; exact old 2 v hv
    | 3, _ => rw [Array.getElem?_setIfInBounds_ne (by omega), Array.getElem?_setIfInBounds_ne (by omega), hE _ (by omega)]; exact old 3 v hv
    | 4, _ => rw [Array.getElem?_setIfInBounds_ne (by omega), Array.getElem?_setIfInBounds_self_of_lt (by omega)]; exact hv
    | 5, _ => rw [Array.getElem?_setIfInBounds_self_of_lt (by simp; omega)]; exact hv
  · have e : (bumpX xs l line)[j]! = xs[j]! := by
      unfold bumpX
      rw [List.getElem!_eq_getElem?_getD, List.getElem?_set_ne (by omega), ← List.getElem!_eq_getElem?_getD]
    rw [e] at hv
    unfold bump
    rw [Array.getElem?_setIfInBounds_ne (by omega), Array.getElem?_setIfInBounds_ne (by omega), hE _ (by omega)]
    exact hF.2.2 j hjn i v hv
theorem bumpX_len {xs : List Fd} {n : Nat} (hx : xs.length = n) (l : Nat) (line : Int) : (bumpX xs l line).length = n := by simp [bumpX, hx]
theorem filled_mo {D : Array Value} {xs : List Fd} {n l : Nat} (hF : Filled D xs n n) (hl : l < n) : D[l * 6 + 4]? = some (.int .i64 (xs[l]!.2.2.2.2.1)) ∧ D[l * 6 + 5]? = some (.int .i64 (xs[l]!.2.2.2.2.2)) :=
  ⟨hF.2.2 l hl 4 _ rfl, hF.2.2 l hl 5 _ rfl⟩
/-- a row of the call's own, laid open -/
theorem own_open {w : World} {base n : Nat} {v : Value} {xs : List Value} (h : w.ownsRow base 31 6 v n xs) (hv : v ≠ .slice none 0 0) :
    ∃ g cap cur, v = .slice (some ⟨g, 0, none⟩) n cap ∧ base ≤ g ∧ Blk w g cur 31 ∧ n ≤ cap ∧ cap ≤ maxLen ∧ cur.size = cap * 6 ∧ ∀ i, i < n * 6 → cur[i]? = xs[i]? := by
  obtain ⟨hl, h | ⟨g, cap, cur, hv', hg, hh, h1, h2, h3, h4⟩⟩ := h
  · exact absurd h.1 hv
  · refine ⟨g, cap, cur, hv', hg, hh, h1, h2, h3, fun i hi => ?_⟩
    rw [← h4, List.getElem?_take_of_lt hi, Array.getElem?_toList]
theorem made_one (n : Nat) : ∀ v ∈ (madeCells (Value.agg #[.int .i64 0, .int .i64 0, .string ByteArray.empty, .string ByteArray.empty, .int .i64 0, .int .i64 0]).cells (n * 6)).toList, v.oneCell' = true := by
  intro v hv
  simp only [madeCells, Array.toList_map, List.mem_map] at hv
  obtain ⟨i, _, rfl⟩ := hv
  have h6 : i % 6 < 6 := Nat.mod_lt _ (by omega)
  show ((#[.int .i64 0, .int .i64 0, .string ByteArray.empty, .string ByteArray.empty, .int .i64 0, .int .i64 0] : Array Value)[i % 6]!).oneCell' = true
  match i % 6, h6 with
  | 0, _ => rfl
  | 1, _ => rfl
  | 2, _ => rfl
  | 3, _ => rfl
  | 4, _ => rfl
  | 5, _ => rfl
theorem tally_one (n : Nat) (s l : Int) (hs : -9223372036854775808 ≤ s ∧ s ≤ 9223372036854775807) :
    (-9223372036854775808 ≤ svf n s ∧ svf n s ≤ 9223372036854775807) ∧ (3 ≤ svf n s → 0 < n ∧ ∃ k : Nat, k < n ∧ lvf n l = (k : Int)) := by
  refine ⟨?_, ?_⟩
  · unfold svf; split <;> omega
  · intro h
    have hn : 0 < n := by
      rcases Nat.eq_zero_or_pos n with h0 | h0
      · unfold svf at h
        rw [h0] at h
        split at h <;> omega
      · exact h0
    refine ⟨hn, (l % (n : Int)).toNat, ?_, ?_⟩
    · have h1 := Int.emod_nonneg l (show (n : Int) ≠ 0 by omega)
      have h2 := Int.emod_lt_of_pos l (show (0 : Int) < (n : Int) by omega)
      omega
    · have h1 := Int.emod_nonneg l (show (n : Int) ≠ 0 by omega)
      rw [lvf_pos hn]; omega
theorem tallies (n : Nat) (_hn : n ≤ 1048576) (s0 s1 s2 s3 s4 s5 l0 l1 l2 l3 l4 l5 : Int) (hs0 : -9223372036854775808 ≤ s0 ∧ s0 ≤ 9223372036854775807) (hs1 : -9223372036854775808 ≤ s1 ∧ s1 ≤ 9223372036854775807) (hs2 : -9223372036854775808 ≤ s2 ∧ s2 ≤ 9223372036854775807) (hs3 : -9223372036854775808 ≤ s3 ∧ s3 ≤ 9223372036854775807) (hs4 : -9223372036854775808 ≤ s4 ∧ s4 ≤ 9223372036854775807) (hs5 : -9223372036854775808 ≤ s5 ∧ s5 ≤ 9223372036854775807) :
    ∀ i, i < 6 → (-9223372036854775808 ≤ qf (svf n s0) (svf n s1) (svf n s2) (svf n s3) (svf n s4) (svf n s5) (lvf n l0) (lvf n l1) (lvf n l2) (lvf n l3) (lvf n l4) (lvf n l5) ((i + 1) * 2) ∧ qf (svf n s0) (svf n s1) (svf n s2) (svf n s3) (svf n s4) (svf n s5) (lvf n l0) (lvf n l1) (lvf n l2) (lvf n l3) (lvf n l4) (lvf n l5) ((i + 1) * 2) ≤ 9223372036854775807) ∧ (3 ≤ qf (svf n s0) (svf n s1) (svf n s2) (svf n s3) (svf n s4) (svf n s5) (lvf n l0) (lvf n l1) (lvf n l2) (lvf n l3) (lvf n l4) (lvf n l5) ((i + 1) * 2) → 0 < n ∧ ∃ k : Nat, k < n ∧ qf (svf n s0) (svf n s1) (svf n s2) (svf n s3) (svf n s4) (svf n s5) (lvf n l0) (lvf n l1) (lvf n l2) (lvf n l3) (lvf n l4) (lvf n l5) ((i + 1) * 2 + 1) = (k : Int)) := by
  intro i hi
  match i, hi with
  | 0, _ => exact tally_one n s0 l0 hs0
  | 1, _ => exact tally_one n s1 l1 hs1
  | 2, _ => exact tally_one n s2 l2 hs2
  | 3, _ => exact tally_one n s3 l3 hs3
  | 4, _ => exact tally_one n s4 l4 hs4
  | 5, _ => exact tally_one n s5 l5 hs5
theorem own_block {w : World} {base size n k : Nat} {e : TypeId} {v : Value} {xs : List Value} (h : w.ownsRow base e size v n xs) (hk : v.ownBlock = some k) : base ≤ k := by
  obtain ⟨hl, ⟨rfl, _⟩ | ⟨g, cap, cur, rfl, hg, _⟩⟩ := h
  · cases hk
  · injection hk with hk
    rw [← hk]; exact hg
/-- a row just laid -/
theorem new_cells (w : World) (l : List Value) (t : TypeId) : ∀ j u, l[j]? = some u → (w.alloc (.cells l.toArray t)).cell? (Addr.add ⟨w.heap.size, 0, none⟩ j) = some u := by
  intro j u hu
  rw [Addr.add_lit, Nat.zero_add, (Blk.new w l.toArray t).cell]
  simpa using hu
/-- one tally shown once more -/
def qUp (q : Nat → Int) (i : Nat) (t n : Int) : Nat → Int := fun j => if j = (i + 1) * 2 then t else if j = (i + 1) * 2 + 1 then n else q j
theorem rep_up (fl v : Value) (q : Nat → Int) (i : Nat) (h : i < 6) (t n : Int) :
    (((repQ fl q).setIfInBounds (15 + (i + 1) * 2) (.int .i64 t)).setIfInBounds (15 + (i + 1) * 2 + 1) (.int .i64 n)).setIfInBounds 0 v = repQ v (qUp q i t n) := by
  match i, h with
  | 0, _ => rfl
  | 1, _ => rfl
  | 2, _ => rfl
  | 3, _ => rfl
  | 4, _ => rfl
  | 5, _ => rfl
theorem bef_up (q : Nat → Int) (i : Nat) (h : i < 6) (t n : Int) :
    ((befQ q).setIfInBounds ((i + 1) * 2) (.int .i64 t)).setIfInBounds ((i + 1) * 2 + 1) (.int .i64 n) = befQ (qUp q i t n) := by
  match i, h with
  | 0, _ => rfl
  | 1, _ => rfl
  | 2, _ => rfl
  | 3, _ => rfl
  | 4, _ => rfl
  | 5, _ => rfl
/-- one finding more -/
theorem more_cells {D E : Array Value} {xs : List Fd} {n : Nat} {x : Fd} (hx : xs.length = n) (hF : Filled D xs n n) (hE : ∀ i, i < (n + 1) * 6 → E[i]? = (D.toList ++ Fd.enc x)[i]?) :
    ∀ j, j < (xs ++ [x]).length → ∀ i v, (Fd.enc (xs ++ [x])[j]!)[i]? = some v → E[0 + j * 6 + i]? = some v := by
  intro j hj i v hv
  have hi := enc_q hv
  have hjn : j < n + 1 := by simpa [hx] using hj
  rw [Nat.zero_add, hE _ (by omega)]
  have hD : D.toList.length = n * 6 := by rw [Array.length_toList]; exact hF.1
  by_cases hjl : j = n
  · subst hjl
    have e : (xs ++ [x])[j]! = x := by
      rw [List.getElem!_eq_getElem?_getD, List.getElem?_append_right (by omega), hx, Nat.sub_self]; rfl
    rw [e] at hv
    rw [List.getElem?_append_right (by omega), hD, show j * 6 + i - j * 6 = i from by omega]; exact hv
  · have e : (xs ++ [x])[j]! = xs[j]! := by
      rw [List.getElem!_eq_getElem?_getD, List.getElem?_append_left (by omega), ← List.getElem!_eq_getElem?_getD]
    rw [e] at hv
    rw [List.getElem?_append_left (by omega), Array.getElem?_toList]
    exact hF.2.2 j (by omega) i v hv
end Go.Proofs.YbulkdtvyDoor.M
