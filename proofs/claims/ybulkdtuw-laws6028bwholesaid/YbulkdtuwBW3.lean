import Derived.Test.YbulkdtuwBW2
import Derived.Lib.SlicesCompact
namespace Go.Proofs.YbulkdtuwB
open Go.RowKit Go.Sort Go.Lib

theorem cmp_lt : ∀ x y : List UInt8, Lib.compareBytes x y < 0 ↔ x < y
  | [], [] => by simp [Lib.compareBytes]
  | [], _ :: _ => by simp [Lib.compareBytes]
  | _ :: _, [] => by simp [Lib.compareBytes]
  | a :: x, b :: y => by
    rw [Lib.compareBytes, List.cons_lt_cons_iff]
    by_cases h1 : a < b
    · simp [h1]
    · by_cases h2 : b < a
      · have : a ≠ b := fun e => by subst e; exact h1 h2
        simp [h1, h2, this]
      · have : a = b := UInt8.le_antisymm (UInt8.not_lt.1 h2) (UInt8.not_lt.1 h1)
        subst this
        simp [h1, cmp_lt x y]

theorem lt_of_le_ne {x y : List UInt8} (h : x ≤ y) (hn : x ≠ y) : x < y := by
  by_cases h' : x < y
  · exact h'
  · exact absurd (List.le_antisymm h (List.not_lt.1 h')) hn
theorem lt_asymm' {x y : List UInt8} (h : x < y) : ¬ y < x := fun h' => List.lt_irrefl x (List.lt_trans h h')

theorem compact_sorted (zs : List (List UInt8)) (h : zs.Pairwise (· ≤ ·)) : (Lib.compact zs).Pairwise (· < ·) := by
  unfold Lib.compact Lib.compactUpTo
  rw [List.pairwise_map]
  refine ((List.pairwise_lt_range (n := zs.length)).filter _).imp_of_mem ?_
  intro a b ha hb hab
  rw [List.mem_filter, List.mem_range] at ha hb
  have hk := hb.2
  unfold Lib.keeps at hk
  simp only [decide_eq_true_eq] at hk
  have hne : zs.toArray[b]! ≠ zs.toArray[b - 1]! := by rcases hk with h | h; omega; exact h
  have le : ∀ i j, i ≤ j → j < zs.length → zs.toArray[i]! ≤ zs.toArray[j]! := by
    intro i j hij hj
    have hi : i < zs.length := by omega
    simp only [List.getElem!_toArray, List.getElem!_eq_getElem?_getD, List.getElem?_eq_getElem hi, List.getElem?_eq_getElem hj, Option.getD_some]
    rcases Nat.lt_or_eq_of_le hij with h1 | rfl
    · exact (List.pairwise_iff_getElem.1 h) i j hi hj h1
    · exact List.le_refl _
  exact lt_of_le_ne (List.le_trans (le a (b - 1) (by omega) (by omega)) (le (b - 1) b (by omega) hb.1)) (fun e => by
    have h1 := le a (b - 1) (by omega) (by omega)
    have h2 := le (b - 1) b (by omega) hb.1
    rw [e] at h1
    exact hne (List.le_antisymm h1 h2))

theorem sort_pair (ss : List (List UInt8)) : (ss.mergeSort fun x y => decide (x ≤ y)).Pairwise (· ≤ ·) := by
  have := List.pairwise_mergeSort (le := fun x y : List UInt8 => decide (x ≤ y)) (fun a b c h1 h2 => by simp only [decide_eq_true_eq] at *; exact List.le_trans h1 h2) (fun a b => by simp only [Bool.or_eq_true, decide_eq_true_eq]; exact List.le_total a b) ss
  exact this.imp (by intro a b h; simpa using h)

/-- what is left: each run without the key; empty runs are gone -/
def wantOf (key : List UInt8) (L : List (List (List UInt8))) : List (List (List UInt8)) := (L.map (List.filter (fun s => decide (s ≠ key)))).filter (fun r => decide (r ≠ []))
theorem wantOf_append (key : List UInt8) (L M : List (List (List UInt8))) : wantOf key (L ++ M) = wantOf key L ++ wantOf key M := by simp [wantOf]
theorem wantOf_id (key : List UInt8) (L : List (List (List UInt8))) (h : ∀ r ∈ L, r ≠ [] ∧ ∀ s ∈ r, s ≠ key) : wantOf key L = L := by
  unfold wantOf
  have h1 : L.map (List.filter (fun s => decide (s ≠ key))) = L := by
    conv => rhs; rw [← List.map_id L]
    exact List.map_congr_left (fun r hr => List.filter_eq_self.2 (fun s hs => by simpa using (h r hr).2 s hs))
  rw [h1]
  exact List.filter_eq_self.2 (fun r hr => by simpa using (h r hr).1)

theorem split (R : List Rn) (key : List UInt8) (hp : (R.map Rn.run).flatten.Pairwise (· < ·)) (hk : key ∈ (R.map Rn.run).flatten) :
    ∃ A x B r1 r2, R = A ++ x :: B ∧ x.run = r1 ++ key :: r2 ∧ (∀ y ∈ A, ∀ s ∈ y.run, s < key) ∧ (∀ s ∈ r1, s < key) ∧ (∀ s ∈ r2, key < s) ∧ (∀ y ∈ B, ∀ s ∈ y.run, key < s) := by
  obtain ⟨r, hr, hkr⟩ := List.mem_flatten.1 hk
  obtain ⟨x, hx, rfl⟩ := List.mem_map.1 hr
  obtain ⟨A, B, rfl⟩ := List.append_of_mem hx
  obtain ⟨r1, r2, he⟩ := List.append_of_mem hkr
  refine ⟨A, x, B, r1, r2, rfl, he, ?_, ?_, ?_, ?_⟩
  all_goals
    simp only [List.map_append, List.map_cons, List.flatten_append, List.flatten_cons, he, List.pairwise_append, List.pairwise_cons, List.mem_append, List.mem_cons, List.mem_flatten, List.mem_map] at hp
  · intro y hy s hs
    exact hp.2.2 s ⟨y.run, ⟨y, hy, rfl⟩, hs⟩ key (.inl (.inr (.inl rfl)))
  · intro s hs
    exact hp.2.1.1.2.2 s hs key (.inl rfl)
  · intro s hs
    exact hp.2.1.1.2.1.1 s hs
  · intro y hy s hs
    exact hp.2.1.2.2 key (.inr (.inl rfl)) s ⟨y.run, ⟨y, hy, rfl⟩, hs⟩

theorem lastD {L : List (List UInt8)} (h : L ≠ []) : L.getLastD [] = L[L.length - 1]'(by have := List.length_pos_iff.2 h; omega) := by
  have h1 := List.length_pos_iff.2 h
  rw [List.getLastD_eq_getLast?, List.getLast?_eq_getElem?, List.getElem?_eq_getElem (by omega)]; rfl
theorem lastD_mem {L : List (List UInt8)} (h : L ≠ []) : L.getLastD [] ∈ L := by rw [lastD h]; exact List.getElem_mem _
theorem getD_lt {α : Type} (L : List α) (d : α) {i : Nat} (h : i < L.length) : L.getD i d = L[i] := by simp [h]
theorem getD_ge {α : Type} (L : List α) (d : α) {i : Nat} (h : L.length ≤ i) : L.getD i d = d := by simp [List.getD_eq_getElem?_getD, h]

/-- the runs by number; behind the last one a run of the key alone -/
def nth (R : List Rn) (key : List UInt8) (t : Nat) : Rn := R.getD t ⟨0, 0, [key]⟩
theorem nth_lt {R : List Rn} {key : List UInt8} {t : Nat} (h : t < R.length) : nth R key t = R[t] := by simp [nth, h]
def lst (R : List Rn) (key : List UInt8) (t : Nat) : ByteArray := ⟨((nth R key t).run.getLastD []).toArray⟩
def sx (x : Rn) (key : List UInt8) (t : Nat) : ByteArray := ⟨(x.run.getD t key).toArray⟩

theorem find_run (A B : List Rn) (x : Rn) (key : List UInt8) (r1 r2 : List (List UInt8)) (hx : x.run = r1 ++ key :: r2) (hA : ∀ y ∈ A, ∀ s ∈ y.run, s < key) (hA0 : ∀ y ∈ A, y.run ≠ [])
    (hr2 : ∀ s ∈ r2, key < s) (hB : ∀ y ∈ B, ∀ s ∈ y.run, key < s) (hB0 : ∀ y ∈ B, y.run ≠ []) :
    Lib.bsGo (less (lst (A ++ x :: B) key) ⟨key.toArray⟩) (A ++ x :: B).length 0 (A ++ x :: B).length = A.length := by
  refine Lib.bsGo_spec _ _ ?_ ?_ _ _ _ (by omega) (by omega) (by simp)
  · intro t ht
    have h1 : nth (A ++ x :: B) key t = A[t] := by rw [nth_lt (by simp; omega), List.getElem_append_left ht]
    have hm : A[t] ∈ A := List.getElem_mem ht
    simp only [less, lst, h1, cmp_lt, decide_eq_true_eq]
    refine hA _ hm _ ?_
    exact lastD_mem (hA0 _ hm)
  · intro t ht
    simp only [less, lst, cmp_lt, decide_eq_false_iff_not]
    by_cases hlt : t < (A ++ x :: B).length
    · rw [nth_lt hlt]
      rcases Nat.lt_or_eq_of_le ht with h | rfl
      · obtain ⟨u, rfl⟩ : ∃ u, t = A.length + (u + 1) := ⟨t - A.length - 1, by omega⟩
        have hu : u < B.length := by simp at hlt; omega
        have h1 : (A ++ x :: B)[A.length + (u + 1)] = B[u] := by simp [List.getElem_append_right]
        have hm : B[u] ∈ B := List.getElem_mem hu
        rw [h1]
        refine lt_asymm' (hB _ hm _ ?_)
        exact lastD_mem (hB0 _ hm)
      · rw [show (A ++ x :: B)[A.length] = x by simp]
        have hm : x.run.getLastD [] ∈ key :: r2 := by
          rw [lastD (by rw [hx]; simp)]
          have hl : x.run.length = r1.length + (r2.length + 1) := by rw [hx]; simp
          simp only [hx]
          rw [List.getElem_append_right (by simp)]
          exact List.getElem_mem _
        rcases List.mem_cons.1 hm with h | h
        · rw [h]; exact List.lt_irrefl key
        · exact lt_asymm' (hr2 _ h)
    · have : nth (A ++ x :: B) key t = ⟨0, 0, [key]⟩ := by unfold nth; rw [getD_ge _ _ (by omega)]
      rw [this]
      exact List.lt_irrefl key

theorem find_key (x : Rn) (key : List UInt8) (r1 r2 : List (List UInt8)) (hx : x.run = r1 ++ key :: r2) (h1 : ∀ s ∈ r1, s < key) (h2 : ∀ s ∈ r2, key < s) :
    Lib.bsGo (fun t => Op.bytesLess (sx x key t).toList (ByteArray.mk key.toArray).toList) x.run.length 0 x.run.length = r1.length := by
  refine Lib.bsGo_spec _ _ ?_ ?_ _ _ _ (by omega) (by omega) (by rw [hx]; simp)
  · intro t ht
    simp only [Proofs.bytesLess_eq, Lib.toList_data, sx, decide_eq_true_eq]
    refine h1 _ ?_
    rw [hx, getD_lt _ _ (by simp; omega), List.getElem_append_left ht]
    exact List.getElem_mem ht
  · intro t ht
    simp only [Proofs.bytesLess_eq, Lib.toList_data, sx, decide_eq_false_iff_not]
    rw [hx]
    by_cases hlt : t < (r1 ++ key :: r2).length
    · rw [getD_lt _ _ hlt, List.getElem_append_right ht]
      have hm : (key :: r2)[t - r1.length]'(by simp at hlt ⊢; omega) ∈ key :: r2 := List.getElem_mem _
      rcases List.mem_cons.1 hm with h | h
      · rw [h]; exact List.lt_irrefl key
      · exact lt_asymm' (h2 _ h)
    · rw [getD_ge _ _ (by omega)]
      exact List.lt_irrefl key

theorem remove_any (bx o c : Nat) (R : List Rn) (key : List UInt8) (w : World)
    (hbx : Blk w bx #[.slice (some ⟨o, 0, none⟩) R.length c] 32) (cur : Array Value) (ho : Blk w o cur 26) (hcur : cur.toList.take R.length = R.map Rn.hd) (hsz : cur.size = c)
    (hc1 : R.length ≤ c) (hc2 : c ≤ maxLen) (hn : R.length ≤ 1048576) (hok : ∀ y ∈ R, RunOk w y) (hnd : (R.map Rn.g).Nodup)
    (hp : (R.map Rn.run).flatten.Pairwise (· < ·)) (hk : key ∈ (R.map Rn.run).flatten) :
    Calls Yba.prog 10 #[.pointer (some ⟨bx, 0, none⟩), .string ⟨key.toArray⟩] w fun e w' => e = .returned (.tuple #[]) ∧ Removed w w' bx o c (R.map Rn.g) (wantOf key (R.map Rn.run)) := by
  obtain ⟨A, x, B, r1, r2, rfl, hx, hA, h1, h2, hB⟩ := split R key hp hk
  have hA0 : ∀ y ∈ A, y.run ≠ [] := fun y hy => (hok y (by simp [hy])).1
  have hB0 : ∀ y ∈ B, y.run ≠ [] := fun y hy => (hok y (by simp [hy])).1
  have eI := find_run A B x key r1 r2 hx hA hA0 h2 hB hB0
  have eJ := find_key x key r1 r2 hx h1 h2
  have hlen : (A ++ x :: B).length = A.length + 1 + B.length := by simp; omega
  have cells : ∀ t, t < (A ++ x :: B).length → nth (A ++ x :: B) key t ∈ A ++ x :: B := fun t ht => by rw [nth_lt ht]; exact List.getElem_mem ht
  have hI : nth (A ++ x :: B) key A.length = x := by rw [nth_lt (by simp)]; simp
  have H := find_any o (A ++ x :: B).length c (fun t => (nth (A ++ x :: B) key t).g) (fun t => (nth (A ++ x :: B) key t).run.length) (fun t => (nth (A ++ x :: B) key t).cap) (lst (A ++ x :: B) key) ⟨key.toArray⟩ w hn
    (fun t ht => ⟨List.length_pos_iff.2 (hok _ (cells t ht)).1, (hok _ (cells t ht)).2.1⟩)
    (fun t ht => by
      rw [ho.cell, take_cell (L := (A ++ x :: B).map Rn.hd) (by simpa using hcur) t (by simpa using ht), List.getElem_map]
      simp only [nth_lt ht, Rn.hd])
    (fun t ht => by
      obtain ⟨hne, _, _, _, cu, hcu, hct⟩ := hok _ (cells t ht)
      have hl := List.length_pos_iff.2 hne
      rw [hcu.cell, take_cell (L := (nth (A ++ x :: B) key t).run.map encStr) (by simpa using hct) _ (by simp; omega), List.getElem_map]
      simp only [lst, encs]
      rw [lastD hne])
    A.length eI (by simp) (sx x key)
    (fun j hj => by
      simp only [hI] at hj ⊢
      obtain ⟨hne, _, _, _, cu, hcu, hct⟩ := hok x (by simp)
      rw [hcu.cell, take_cell (L := x.run.map encStr) (by simpa using hct) _ (by simpa using hj), List.getElem_map]
      simp only [sx, encs, getD_lt _ _ hj])
    r1.length (by simp only [hI]; exact eJ)
  rw [hlen] at H hbx hc1 hn
  have hwA : wantOf key (A.map Rn.run) = A.map Rn.run := wantOf_id _ _ (by
    intro r hr; obtain ⟨y, hy, rfl⟩ := List.mem_map.1 hr
    exact ⟨hA0 y hy, fun s hs e => List.lt_irrefl key (e ▸ hA y hy s hs)⟩)
  have hwB : wantOf key (B.map Rn.run) = B.map Rn.run := wantOf_id _ _ (by
    intro r hr; obtain ⟨y, hy, rfl⟩ := List.mem_map.1 hr
    exact ⟨hB0 y hy, fun s hs e => List.lt_irrefl key (e ▸ hB y hy s hs)⟩)
  have hf : (r1 ++ key :: r2).filter (fun s => decide (s ≠ key)) = r1 ++ r2 := by
    rw [List.filter_append, List.filter_cons, if_neg (by simp), List.filter_eq_self.2, List.filter_eq_self.2]
    · intro s hs; simpa using fun e : s = key => List.lt_irrefl key (e ▸ h2 s hs)
    · intro s hs; simpa using fun e : s = key => List.lt_irrefl key (e ▸ h1 s hs)
  have hw : wantOf key ((A ++ x :: B).map Rn.run) = A.map Rn.run ++ (if r1 ++ r2 = [] then [] else [r1 ++ r2]) ++ B.map Rn.run := by
    rw [show (A ++ x :: B).map Rn.run = A.map Rn.run ++ ([r1 ++ key :: r2] ++ B.map Rn.run) by simp [hx], wantOf_append, wantOf_append, hwA, hwB, List.append_assoc]
    congr 2
    simp only [wantOf, List.map_cons, List.map_nil, hf, List.filter_cons, List.filter_nil]
    by_cases h : r1 ++ r2 = []
    · rw [h]; simp
    · rw [if_neg h, if_pos (decide_eq_true h)]
  rw [hw]
  by_cases h0 : r1 ++ r2 = []
  · have hr1 : r1 = [] := (List.append_eq_nil_iff.1 h0).1
    have hr2 : r2 = [] := (List.append_eq_nil_iff.1 h0).2
    rw [if_pos h0, List.append_nil, ← List.map_append]
    subst hr1 hr2
    exact remove_one bx o c A B x key w hbx cur ho hcur hsz hc1 hc2 hn hok (by rw [hx]; rfl) H
  · rw [if_neg h0, List.append_assoc]
    exact remove_more bx o c A B x r1 r2 key w hbx cur ho hcur hn hok hx h0 hnd H
end Go.Proofs.YbulkdtuwB
