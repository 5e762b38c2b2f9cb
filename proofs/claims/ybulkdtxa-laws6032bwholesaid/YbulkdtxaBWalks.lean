import Derived.Test.YbulkdtxaRows
import Derived.WalkKit
import Derived.ProofKit
import Derived.WalkLawsBesides
import Derived.WalkSpells
namespace Go.Proofs.Ybulkdtxa.B
open Go.ChangeShapes Go.WideShapes Go.ChangeAt Go.RowKit

def digB (c : UInt8) : Bool := decide (48 ≤ c.toNat ∧ c.toNat ≤ 57)
theorem ret_bool {a b : Bool} (h : a = b) : Ending.returned (.bool a) = .returned (.bool b) := by rw [h]

set_option maxHeartbeats 400000 in
theorem isdig_any (c : UInt8) (w : World) :
    Calls Yba.prog 16 #[.int .u8 c.toNat] w fun e w' => e = .returned (.bool (digB c)) ∧ w' = w := by
  have hc : c.toNat < 256 := c.toNat_lt
  by_cases h1 : 48 ≤ c.toNat
  · by_cases h2 : c.toNat ≤ 57
    · have HD : Hid (digB c = true) := by unfold digB; exact decide_eq_true ⟨h1, h2⟩
      go_enter Yba.func16, Yba.ntmps16
      go_wp2
      go_ret
      exact ⟨ret_bool (by rw [HD.out]; simp; omega), rfl⟩
    · have HD : Hid (digB c = false) := by unfold digB; exact decide_eq_false (by omega)
      go_enter Yba.func16, Yba.ntmps16
      go_wp2
      go_ret
      exact ⟨ret_bool (by rw [HD.out]; simp; omega), rfl⟩
  · have HD : Hid (digB c = false) := by unfold digB; exact decide_eq_false (by omega)
    have hd : decide (48 ≤ c.toNat) = false := decide_eq_false h1
    go_enter Yba.func16, Yba.ntmps16
    go_wp2
    go_ret
    exact ⟨ret_bool (by rw [HD.out]), rfl⟩

theorem dig_at (n : Nat) (h : n < ({ data := #[48, 49, 50, 51, 52, 53, 54, 55, 56, 57] } : ByteArray).size) :
    (({ data := #[48, 49, 50, 51, 52, 53, 54, 55, 56, 57] } : ByteArray)[n]).toNat = 48 + n := by
  have h' : n < 10 := h
  match n, h' with
  | 0, _ => rfl
  | 1, _ => rfl
  | 2, _ => rfl
  | 3, _ => rfl
  | 4, _ => rfl
  | 5, _ => rfl
  | 6, _ => rfl
  | 7, _ => rfl
  | 8, _ => rfl
  | 9, _ => rfl
theorem hit (c : UInt8) (n : Nat) (h : n < ({ data := #[48, 49, 50, 51, 52, 53, 54, 55, 56, 57] } : ByteArray).size)
    (e : ((({ data := #[48, 49, 50, 51, 52, 53, 54, 55, 56, 57] } : ByteArray)[n].toNat : Int) == (c.toNat : Int)) = true) : digB c = true := by
  have h' : n < 10 := h
  rw [dig_at] at e
  have e2 := eq_of_beq e
  unfold digB; exact decide_eq_true (by omega)
theorem miss (c : UInt8) (n : Nat) (h : n < ({ data := #[48, 49, 50, 51, 52, 53, 54, 55, 56, 57] } : ByteArray).size)
    (e : ((({ data := #[48, 49, 50, 51, 52, 53, 54, 55, 56, 57] } : ByteArray)[n].toNat : Int) == (c.toNat : Int)) = false)
    (hn : ¬ (48 ≤ c.toNat ∧ c.toNat < 48 + n)) : ¬ (48 ≤ c.toNat ∧ c.toNat < 48 + (n + 1)) := by
  rw [dig_at] at e
  have e2 := ne_of_beq_false e
  omega

set_option maxHeartbeats 400000 in
theorem hasdig_any (c : UInt8) (w : World) :
    Calls Yba.prog 12 #[.int .u8 c.toNat] w fun e w' => e = .returned (.bool (digB c)) ∧ w' = w := by
  have hc : c.toNat < 256 := c.toNat_lt
  go_enter Yba.func12, Yba.ntmps12
  go_wp2
  go_loop [2, 3] (fun r j => ∃ n : Nat, n ≤ 10 ∧ ¬ (48 ≤ c.toNat ∧ c.toNat < 48 + n) ∧ j = .int .i64 n) (fun _ j => 10 - (intOf j).toNat)
  case atStart => exact ⟨0, by omega, by omega, rfl⟩
  case round =>
    obtain ⟨n, hn, hnot, rfl⟩ := hrel
    by_cases hlt : n < 10
    · have HN : Hid (¬ (48 ≤ c.toNat ∧ c.toNat < 48 + n)) := hnot
      clear hnot
      go_wp2
      · go_ret
        exact ⟨ret_bool (hit c n _ (by assumption)).symm, rfl⟩
      · go_round
        case rel => exact ⟨n + 1, by omega, miss c n _ (by assumption) HN.out, by go_num⟩
        case measure => simp [intOf]; omega
    · go_wp2
      go_ret
      have HD : digB c = false := by unfold digB; exact decide_eq_false (by omega)
      exact ⟨ret_bool (by rw [HD]), rfl⟩
/-- has a digit among its bytes from k on -/
def anyFrom (s : ByteArray) (k : Nat) : Bool := (s.data.toList.drop k).any digB
theorem anyFrom_end (s : ByteArray) : anyFrom s s.size = false := by
  unfold anyFrom; rw [List.drop_eq_nil_of_le (by simp)]; rfl
theorem anyFrom_step (s : ByteArray) (k : Nat) (h : k < s.size) : anyFrom s k = (digB s[k] || anyFrom s (k + 1)) := by
  unfold anyFrom; rw [List.drop_eq_getElem_cons (by simpa using h), List.any_cons]; rfl
/-- no digit among the first k bytes -/
def NoneTo (s : ByteArray) (k : Nat) : Prop := anyFrom s 0 = anyFrom s k

set_option maxHeartbeats 400000 in
theorem letters_any (s : ByteArray) (w : World) (hs : s.size ≤ maxLen) :
    Calls Yba.prog 13 #[.string s] w fun e w' => e = .returned (.bool (!anyFrom s 0)) ∧ w' = w := by
  unfold maxLen at hs
  go_enter Yba.func13, Yba.ntmps13
  go_wp2
  go_loop [2, 3, 6] (fun r i j => ∃ n : Nat, n ≤ s.size ∧ NoneTo s n ∧ j = .int .i64 n) (fun _ _ j => s.size - (intOf j).toNat)
  case atStart => exact ⟨0, by omega, rfl, rfl⟩
  case round =>
    obtain ⟨n, hn, hnone, rfl⟩ := hrel
    by_cases hlt : n < s.size
    · have hst := anyFrom_step s n hlt
      have HS : Hid (anyFrom s n = (digB s[n] || anyFrom s (n + 1))) := hst
      clear hst
      have hc := isdig_any s[n] w
      cases hb : digB s[n]
      · have HB : Hid (digB s[n] = false) := hb
        rw [hb] at hc
        clear hb
        go_wp2_with (go_at_call 16; refine hc.mono ?_; rintro e w' ⟨rfl, rfl⟩)
        go_round
        case rel => exact ⟨n + 1, by omega, by unfold NoneTo; rw [hnone, HS.out, HB.out]; rfl, by go_num⟩
        case measure => simp [intOf]; omega
      · have HB : Hid (digB s[n] = true) := hb
        rw [hb] at hc
        clear hb
        go_wp2_with (go_at_call 16; refine hc.mono ?_; rintro e w' ⟨rfl, rfl⟩)
        go_ret
        exact ⟨ret_bool (by rw [hnone, HS.out, HB.out]; rfl), rfl⟩
    · obtain rfl : n = s.size := by omega
      go_wp2
      go_ret
      exact ⟨ret_bool (by rw [hnone, anyFrom_end]; rfl), rfl⟩

set_option maxHeartbeats 400000 in
theorem law_any (s : ByteArray) (w : World) (hs : s.size ≤ maxLen) :
    Calls Yba.prog 4 #[.string s] w fun e w' => e = .returned (.bool true) ∧ w' = w := by
  have hl := letters_any s w hs
  unfold maxLen at hs
  by_cases hbig : 1048576 < s.size
  · go_enter Yba.func4, Yba.ntmps4
    go_wp2
    go_ret
    exact ⟨rfl, rfl⟩
  have hd0 : decide (1048576 < s.size) = false := decide_eq_false hbig
  go_enter Yba.func4, Yba.ntmps4
  go_wp2
  go_loop [3, 4] (fun r j => ∃ n : Nat, n ≤ s.size ∧ r = .bool (!anyFrom s n) ∧ j = .int .i64 ((n : Int) - 1)) (fun _ j => (intOf j + 1).toNat)
  case atStart => exact ⟨s.size, Nat.le_refl _, by rw [anyFrom_end]; rfl, rfl⟩
  case round =>
    obtain ⟨n, hn, rfl, rfl⟩ := hrel
    rcases Nat.eq_zero_or_pos n with h0 | h0
    · subst h0
      go_wp2_with (go_at_call 13; refine hl.mono ?_; rintro e w' ⟨rfl, rfl⟩)
      go_ret
      exact ⟨ret_bool (by simp), rfl⟩
    · obtain ⟨k, rfl⟩ : ∃ k, n = k + 1 := ⟨n - 1, by omega⟩
      have hk : k < s.size := by omega
      have hst := anyFrom_step s k hk
      have HS : Hid (anyFrom s k = (digB s[k] || anyFrom s (k + 1))) := hst
      clear hst
      have hc := hasdig_any s[k] w
      cases hb : digB s[k]
      · have HB : Hid (digB s[k] = false) := hb
        rw [hb] at hc
        clear hb
        go_wp2_with (go_at_call 12; refine hc.mono ?_; rintro e w' ⟨rfl, rfl⟩)
        go_round
        case rel => exact ⟨k, by omega, by rw [HS.out, HB.out]; rfl, rfl⟩
        case measure => simp [intOf]
      · have HB : Hid (digB s[k] = true) := hb
        rw [hb] at hc
        clear hb
        go_wp2_with (go_at_call 12; refine hc.mono ?_; rintro e w' ⟨rfl, rfl⟩)
        go_round
        case rel => exact ⟨k, by omega, by rw [HS.out, HB.out]; rfl, rfl⟩
        case measure => simp [intOf]
end Go.Proofs.Ybulkdtxa.B
