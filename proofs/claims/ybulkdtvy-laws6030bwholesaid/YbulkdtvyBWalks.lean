import Derived.Test.YbulkdtvyRows
import Derived.WalkKit
import Derived.ProofKit
import Derived.WalkLawsBesides
import Derived.WalkSpells
namespace Go.Proofs.Ybulkdtvy.B
open Go.ChangeShapes Go.WideShapes Go.ChangeAt Go.RowKit

def blankB (c : UInt8) : Bool := c == 32 || c == 9 || c == 13
theorem ret_bool {a b : Bool} (h : a = b) : Ending.returned (.bool a) = .returned (.bool b) := by rw [h]
theorem c32 (c : UInt8) : ((c.toNat : Int) == 32) = (c == 32) := by
  rw [Bool.eq_iff_iff]; simp [← UInt8.toNat_inj]; omega
theorem c9 (c : UInt8) : ((c.toNat : Int) == 9) = (c == 9) := by
  rw [Bool.eq_iff_iff]; simp [← UInt8.toNat_inj]; omega
theorem c13 (c : UInt8) : ((c.toNat : Int) == 13) = (c == 13) := by
  rw [Bool.eq_iff_iff]; simp [← UInt8.toNat_inj]; omega

set_option maxHeartbeats 400000 in
theorem blank_any (c : UInt8) (w : World) :
    Calls Yba.prog 7 #[.int .u8 c.toNat] w fun e w' => e = .returned (.bool (blankB c)) ∧ w' = w := by
  have h1 := c32 c
  have h2 := c9 c
  have h3 := c13 c
  unfold blankB
  cases g1 : (c == 32) <;> rw [g1] at h1 <;> clear g1
  · cases g2 : (c == 9) <;> rw [g2] at h2 <;> clear g2
    · cases g3 : (c == 13) <;> rw [g3] at h3 <;> clear g3
      all_goals
        go_enter Yba.func7, Yba.ntmps7
        go_wp2
        go_ret
        exact ⟨rfl, rfl⟩
    · go_enter Yba.func7, Yba.ntmps7
      go_wp2
      go_ret
      exact ⟨rfl, rfl⟩
  · go_enter Yba.func7, Yba.ntmps7
    go_wp2
    go_ret
    exact ⟨rfl, rfl⟩
/-- from n on, all blank -/
def Tail (s : ByteArray) (n : Nat) : Prop := ∀ i (h : i < s.size), n ≤ i → blankB s[i] = true
theorem Tail.all (s : ByteArray) : Tail s s.size := fun i h h' => absurd h (by omega)
theorem Tail.down {s : ByteArray} {j : Nat} (hj : j < s.size) (h : Tail s (j + 1)) (hb : blankB s[j] = true) : Tail s j := by
  intro i hi hji
  by_cases e : i = j
  · subst e; exact hb
  · exact h i hi (by omega)
def Trimmed (s : ByteArray) (n : Nat) : Prop := n ≤ s.size ∧ Tail s n ∧ ∀ (j : Nat) (h : j < s.size), n = j + 1 → blankB s[j] = false

theorem Trimmed.of {s : ByteArray} {j : Nat} (hn : j + 1 ≤ s.size) (ht : Tail s (j + 1)) (hj : j < s.size) (hb : blankB s[j] = false) : Trimmed s (j + 1) := by
  refine ⟨hn, ht, fun i hi e => ?_⟩
  obtain rfl : i = j := by omega
  exact hb
def TrimPost (s : ByteArray) (w : World) (e : Ending) (w' : World) : Prop :=
  ∃ (n : Nat) (r : ByteArray), Trimmed s n ∧ r.size = n ∧ r = s.extract 0 n ∧ e = .returned (.string r) ∧ w' = w

set_option maxHeartbeats 1000000 in
theorem trim_any (s : ByteArray) (w : World) (hs : s.size ≤ maxLen) :
    Calls Yba.prog 6 #[.string s] w fun e w' => TrimPost s w e w' := by
  unfold maxLen at hs
  go_enter Yba.func6, Yba.ntmps6
  go_wp2
  go_loop [3] (fun e => ∃ n : Nat, n ≤ s.size ∧ Tail s n ∧ e = .int .i64 n) (fun e => (intOf e).toNat)
  case atStart => exact ⟨s.size, Nat.le_refl _, Tail.all s, rfl⟩
  case round =>
    obtain ⟨n, hn, ht, rfl⟩ := hrel
    rcases Nat.eq_zero_or_pos n with h0 | h0
    · subst h0
      go_wp2
      go_ret
      exact ⟨0, ByteArray.empty, ⟨hn, ht, fun j h e => by omega⟩, rfl, by simp, rfl, rfl⟩
    · obtain ⟨j, rfl⟩ : ∃ j, n = j + 1 := ⟨n - 1, by omega⟩
      have hj : j < s.size := by omega
      have h1 := c32 s[j]
      have h2 := c9 s[j]
      have h3 := c13 s[j]
      have hb : blankB s[j] = (s[j] == 32 || s[j] == 9 || s[j] == 13) := rfl
      cases g1 : (s[j] == 32) <;> rw [g1] at h1 hb <;> clear g1
      · cases g2 : (s[j] == 9) <;> rw [g2] at h2 hb <;> clear g2
        · cases g3 : (s[j] == 13) <;> rw [g3] at h3 hb <;> clear g3
          · have HB : Hid (blankB s[j] = false) := hb
            clear hb
            have hsz : (s.extract 0 (j + 1)).size = j + 1 := by simp [ByteArray.size_extract]; omega
            have HZ : Hid ((s.extract 0 (j + 1)).size = j + 1) := hsz
            clear hsz
            go_wp2
            go_ret
            exact ⟨j + 1, s.extract 0 (j + 1), Trimmed.of hn ht hj HB.out, HZ.out, rfl, rfl, rfl⟩
          · have HB : Hid (blankB s[j] = true) := hb
            clear hb
            go_wp2
            go_round
            case rel => exact ⟨j, by omega, Tail.down hj ht HB.out, rfl⟩
            case measure => simp [intOf]
        · have HB : Hid (blankB s[j] = true) := hb
          clear hb h3
          go_wp2
          go_round
          case rel => exact ⟨j, by omega, Tail.down hj ht HB.out, rfl⟩
          case measure => simp [intOf]
      · have HB : Hid (blankB s[j] = true) := hb
        clear hb h2 h3
        go_wp2
        go_round
        case rel => exact ⟨j, by omega, Tail.down hj ht HB.out, rfl⟩
        case measure => simp [intOf]

set_option maxHeartbeats 1000000 in
theorem law_any (s : ByteArray) (w : World) (hs : s.size ≤ maxLen) :
    Calls Yba.prog 4 #[.string s] w fun e w' => e = .returned (.bool true) ∧ w' = w := by
  have ht := trim_any s w hs
  unfold maxLen at hs
  go_enter Yba.func4, Yba.ntmps4
  go_wp2_with (fail)
  refine ht.mono ?_
  rintro e w1 ⟨n, r, ⟨hn, htl, hlast⟩, hz, hr, rfl, rfl⟩
  have HL : Hid (∀ (j : Nat) (h : j < s.size), n = j + 1 → blankB s[j] = false) := hlast
  have HR : Hid (r = s.extract 0 n) := hr
  have HZ : Hid (r.size = n) := hz
  have hnr : r.size ≤ s.size := by omega
  have htl' : Tail s r.size := by rw [hz]; exact htl
  have heq : ((s.extract 0 r.size).toList == r.toList) = true := by rw [hz, ← hr]; simp
  have hd0 : decide (s.size < r.size) = false := by simp; omega
  clear ht hlast hr hz htl hn
  go_wp2_with (fail)
  go_loop [5] (fun i => ∃ k : Nat, r.size ≤ k ∧ k ≤ s.size ∧ i = .int .i64 k) (fun i => s.size - (intOf i).toNat)
  case atStart => exact ⟨r.size, Nat.le_refl _, hnr, rfl⟩
  case round =>
    obtain ⟨k, hk1, hk2, rfl⟩ := hrel
    by_cases hlt : k < s.size
    · have hbk := htl' k hlt hk1
      have hc := blank_any s[k] w1
      go_wp2_with (go_at_call 7; refine hc.mono ?_; rintro e w' ⟨rfl, rfl⟩)
      go_round
      case rel => exact ⟨k + 1, by omega, by omega, by go_num⟩
      case measure => simp [intOf]; omega
    · rcases Nat.eq_zero_or_pos r.size with h0 | h0
      · have hd : decide (0 < r.size) = false := decide_eq_false (by omega)
        have hd' : ¬ (0 < r.size) := by omega
        clear h0
        go_wp2
        go_ret
        exact ⟨rfl, rfl⟩
      · have hjs : r.size - 1 < s.size := by omega
        have hjr : r.size - 1 < r.size := by omega
        have hbj : blankB r[r.size - 1] = false := by
          have e1 := HL.out (r.size - 1) hjs (by have := HZ.out; omega)
          have e2 : r[r.size - 1] = s[r.size - 1] := by
            have e3 := HR.out
            generalize hj : r.size - 1 = j at hjs hjr ⊢
            subst e3
            simp only [ByteArray.getElem_extract, Nat.zero_add]
          rw [e2]; exact e1
        have hc := blank_any r[r.size - 1] w1
        go_wp2_with (go_at_call 7; refine hc.mono ?_; rintro e w' ⟨rfl, rfl⟩)
        go_ret
        exact ⟨rfl, rfl⟩
end Go.Proofs.Ybulkdtvy.B
