import Derived.Test.YbulkdtuwRows
import Derived.Test.YbulkdtuwAFacts
import Derived.WalkKit
import Derived.ProofKit
import Derived.WalkLawsBesides
namespace Go.Proofs.Ybulkdtuw.A
open Go.ChangeShapes Go.WideShapes Go.ChangeAt Go.RowKit

theorem ret_int {k : IntKind} {a b : Int} (h : a = b) : Ending.returned (.int k a) = .returned (.int k b) := by rw [h]
theorem ret_tt {b : Bool} (h : b = true) : Ending.returned (.bool b) = .returned (.bool true) := by rw [h]
theorem u64b (c : UInt8) : IntKind.u64.wrap (c.toNat : Int) = (c.toNat : Int) := by
  have hc : c.toNat < 256 := c.toNat_lt
  rw [IntKind.wrap_u64]; omega

set_option maxHeartbeats 400000 in
theorem byte_any (t k : ByteArray) (i : Nat) (w : World) (_ht : t.size ≤ 1048576) (_hk : k.size ≤ 1048576) (hi : i < t.size + 1 + k.size) :
    Calls Yba.prog 6 #[.string t, .string k, .int .i64 i] w fun e w' => e = .returned (.int .u64 (((strm t k).getD i 0).toNat : Int)) ∧ w' = w := by
  by_cases h1 : i < t.size
  · have e := strm_lo t k i h1
    have E : Hid ((strm t k).getD i 0 = t[i]) := e
    clear e
    go_enter Yba.func6, Yba.ntmps6
    go_wp2
    go_ret
    exact ⟨ret_int (by rw [E.out]; exact u64b _), rfl⟩
  · by_cases h2 : i = t.size
    · subst h2
      go_enter Yba.func6, Yba.ntmps6
      go_wp2
      go_ret
      exact ⟨ret_int (by rw [strm_mid]; rfl), rfl⟩
    · obtain ⟨j, rfl⟩ : ∃ j, i = t.size + 1 + j := ⟨i - t.size - 1, by omega⟩
      have hj : j < k.size := by omega
      have e := strm_hi t k j hj
      have E : Hid ((strm t k).getD (t.size + 1 + j) 0 = k[j]) := e
      clear e
      go_enter Yba.func6, Yba.ntmps6
      go_wp2
      go_ret
      refine ⟨ret_int ?_, rfl⟩
      rw [E.out, u64b]
      simp only [show t.size + 1 + j - t.size - 1 = j from by omega]

set_option maxHeartbeats 400000 in
theorem part_any (t k : ByteArray) (w : World) (ht : t.size ≤ maxLen) (hk : k.size ≤ maxLen) :
    Calls Yba.prog 7 #[.string t, .string k] w fun e w' => e = .returned (.int .u8 ((fnv (strm t k) % 16 : Nat) : Int)) ∧ w' = w := by
  unfold maxLen at ht hk
  go_enter Yba.func7, Yba.ntmps7
  go_wp2
  go_loop [5, 6, 10] (fun h i j => ∃ n : Nat, n ≤ t.size ∧ j = .int .i64 n ∧ h = .int .u32 (fnv ((strm t k).take n) : Nat)) (fun _ _ j => t.size - (intOf j).toNat)
  case atStart => exact ⟨0, Nat.zero_le _, rfl, rfl⟩
  case round =>
    obtain ⟨n, hn, rfl, rfl⟩ := hrel
    by_cases hlt : n < t.size
    · go_wp2
      go_round
      case rel => exact ⟨n + 1, by omega, by go_num, by rw [nxt_lo t k n hlt]⟩
      case measure => simp [intOf]; omega
    · obtain rfl : n = t.size := by omega
      go_wp2
      rw [nxt_mid]
      go_loop [5, 7, 25] (fun h i j => ∃ n : Nat, n ≤ k.size ∧ j = .int .i64 n ∧ h = .int .u32 (fnv ((strm t k).take (t.size + 1 + n)) : Nat)) (fun _ _ j => k.size - (intOf j).toNat)
      case atStart => exact ⟨0, Nat.zero_le _, rfl, rfl⟩
      case round =>
        obtain ⟨n, hn, rfl, rfl⟩ := hrel
        by_cases hlt : n < k.size
        · go_wp2
          go_round
          case rel => exact ⟨n + 1, by omega, by go_num, by rw [nxt_hi t k n hlt]; rfl⟩
          case measure => simp [intOf]; omega
        · obtain rfl : n = k.size := by omega
          go_wp2
          go_ret
          have e : (strm t k).take (t.size + 1 + k.size) = strm t k := List.take_of_length_le (by rw [strm_len]; exact Nat.le_refl _)
          exact ⟨ret_int (by rw [e]), rfl⟩

set_option maxHeartbeats 400000 in
theorem law_any (t k : ByteArray) (w : World) (ht : t.size ≤ maxLen) (hk : k.size ≤ maxLen) :
    Calls Yba.prog 3 #[.string t, .string k] w fun e w' => e = .returned (.bool true) ∧ w' = w := by
  by_cases h1 : 1048576 < t.size
  · go_enter Yba.func3, Yba.ntmps3
    go_wp2
    go_ret
    exact ⟨rfl, rfl⟩
  by_cases h2 : 1048576 < k.size
  · go_enter Yba.func3, Yba.ntmps3
    go_wp2
    go_ret
    exact ⟨rfl, rfl⟩
  have hlen := strm_len t k
  have HL : Hid ((strm t k).length = t.size + 1 + k.size) := hlen
  clear hlen
  go_enter Yba.func3, Yba.ntmps3
  go_wp2
  go_loop [5, 7] (fun h i => ∃ n : Nat, n ≤ t.size + 1 + k.size ∧ i = .int .i64 n ∧ h = .int .u64 (fnv ((strm t k).take n) : Nat)) (fun _ i => t.size + 1 + k.size - (intOf i).toNat)
  case atStart => exact ⟨0, Nat.zero_le _, rfl, rfl⟩
  case round =>
    obtain ⟨n, hn, rfl, rfl⟩ := hrel
    by_cases hlt : n < t.size + 1 + k.size
    · have hb := byte_any t k n w (by omega) (by omega) hlt
      go_wp2_with (go_at_call 6; refine hb.mono ?_; rintro e w' ⟨rfl, rfl⟩)
      go_round
      case rel => exact ⟨n + 1, by omega, by go_num, by rw [nxt_law _ _ (by rw [HL.out]; exact hlt)]⟩
      case measure => simp [intOf]; omega
    · obtain rfl : n = t.size + 1 + k.size := by omega
      have e : (strm t k).take (t.size + 1 + k.size) = strm t k := List.take_of_length_le (by rw [strm_len]; exact Nat.le_refl _)
      have hp := part_any t k w ht hk
      go_wp2_with (go_at_call 7; refine hp.mono ?_; rintro e w' ⟨rfl, rfl⟩)
      go_ret
      exact ⟨ret_tt (by simp; omega), rfl⟩
end Go.Proofs.Ybulkdtuw.A
