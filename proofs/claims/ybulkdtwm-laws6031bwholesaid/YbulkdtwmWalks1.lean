import Derived.Test.YbulkdtwmRows
import Derived.Test.YbulkdtwmFacts
import Derived.WalkKit
import Derived.ProofKit
import Derived.WalkLawsBesides
import Derived.WalkSpells
namespace Go.Proofs.Ybulkdtwm.B
open Go.ChangeShapes Go.WideShapes Go.ChangeAt Go.RowKit

theorem ret_int {k : IntKind} {a b : Int} (h : a = b) : Ending.returned (.int k a) = .returned (.int k b) := by rw [h]
theorem hide {p : Prop} (h : p) : Hid p := h
theorem unhide {p : Prop} (h : Hid p) : p := h
theorem val_int {k : IntKind} {a b : Int} (h : a = b) : Value.int k a = .int k b := by rw [h]

set_option maxHeartbeats 400000 in
theorem div_any (hi lo top : Nat) (w : World) (h1 : hi < top) (h2 : top ≤ 18446744073709551615) (h3 : lo ≤ 18446744073709551615) :
    Calls Yba.prog 4 #[.int .u64 hi, .int .u64 lo, .int .u64 top] w fun e w' => e = .returned (.int .u64 (quoN hi lo top : Nat)) ∧ w' = w := by
  go_enter Yba.func4, Yba.ntmps4
  go_wp2
  go_loop [7, 8, 9, 10] (fun r q i c => ∃ rr qq n : Nat, n ≤ 64 ∧ DivInv hi lo top n rr qq ∧ r = .int .u64 rr ∧ q = .int .u64 qq ∧ i = .int .i64 ((n : Int) - 1)) (fun _ _ i _ => (intOf i + 1).toNat)
  case atStart => exact ⟨hi, 0, 64, by omega, DivInv.start (by omega) h1, rfl, rfl, rfl⟩
  case round =>
    obtain ⟨rr, qq, n, hn, hinv, rfl, rfl, rfl⟩ := hrel
    rcases Nat.eq_zero_or_pos n with h0 | h0
    · subst h0
      have ho := hinv.out
      have HO : Hid (qq = quoN hi lo top) := ho
      clear ho
      go_wp2
      go_ret
      exact ⟨ret_int (by rw [HO.out]), rfl⟩
    · obtain ⟨m, rfl⟩ : ∃ m, n = m + 1 := ⟨n - 1, by omega⟩
      have hm : m < 64 := by omega
      have hf := hinv.fits hn (by omega) h1
      have hqq : qq * 2 ≤ 18446744073709551615 := by
        have : 2 ^ (64 - (m + 1)) ≤ 2 ^ 63 := Nat.pow_le_pow_right (by omega) (by omega)
        omega
      clear hf
      have hrr := hinv.2
      have HQ : Hid (bits .or .u64 ((qq : Int) * 2) 1 = ((2 * qq + 1 : Nat) : Int)) := quo_eq qq hqq
      by_cases hc : 9223372036854775808 ≤ rr
      · have hre := rem_eq' rr lo m hc (by omega) h3
        have ht : top ≤ 2 * rr + lo / 2 ^ m % 2 := by omega
        have hnew := hinv.hit hm ht
        have hc1 : (rr : Int) / 9223372036854775808 = 1 := by omega
        have hc2 : ((rr : Int) / 9223372036854775808 == 1) = true := by rw [hc1]; rfl
        have HR := hide hre
        clear hre hc1
        go_wp2
        go_round
        case rel =>
          refine ⟨_, _, m, by omega, hnew, val_int ?_, val_int (HQ.out), rfl⟩
          rw [unhide HR, IntKind.wrap_u64]
          omega
        case measure => simp [intOf]
      · have hre := rem_eq rr lo m (by omega) h3
        have hc1 : ((rr : Int) / 9223372036854775808 == 1) = false := by
          rw [beq_eq_false_iff_ne]; omega
        by_cases ht : top ≤ 2 * rr + lo / 2 ^ m % 2
        · have hnew := hinv.hit hm ht
          have ht' : (top : Int) ≤ bits .or .u64 ((rr : Int) * 2) (bits .and .u64 ((lo : Int) / 2 ^ m) 1) := by rw [hre]; omega
          have HR := hide hre
          clear hre
          go_wp2
          go_round
          case rel =>
            refine ⟨_, _, m, by omega, hnew, val_int ?_, val_int (HQ.out), rfl⟩
            rw [unhide HR, IntKind.wrap_u64]
            omega
          case measure => simp [intOf]
        · have hnew := hinv.miss hm (by omega)
          have ht' : ¬ (top : Int) ≤ bits .or .u64 ((rr : Int) * 2) (bits .and .u64 ((lo : Int) / 2 ^ m) 1) := by rw [hre]; omega
          have HR := hide hre
          clear hre
          go_wp2
          go_round
          case rel =>
            refine ⟨_, _, m, by omega, hnew, val_int (unhide HR), val_int (by omega), rfl⟩
          case measure => simp [intOf]

set_option maxHeartbeats 400000 in
theorem len_any (q : Nat) (w : World) (h2 : q ≤ 18446744073709551615)  :
    Calls Yba.prog 5 #[.int .u64 q] w fun e w' => e = .returned (.int .i64 (Lib.bitLen q)) ∧ w' = w := by
  have hb := Lib.bitLen_le q 64 (by omega) (by omega)
  go_enter Yba.func5, Yba.ntmps5
  go_wp2
  go_loop [0, 3] (fun r n => ∃ rr nn : Nat, r = .int .u64 rr ∧ rr ≤ 18446744073709551615 ∧ nn ≤ 64 ∧ Hid (nn + Lib.bitLen rr = Lib.bitLen q) ∧ n = .int .i64 nn) (fun r _ => (intOf r).toNat)
  case atStart => exact ⟨q, 0, rfl, h2, by omega, hide (by omega), rfl⟩
  case round =>
    obtain ⟨rr, nn, rfl, h1, hn, hs, rfl⟩ := hrel
    by_cases h0 : rr = 0
    · subst h0
      go_wp2
      go_ret
      exact ⟨ret_int (by have := hs.out; have z : Lib.bitLen 0 = 0 := rfl; omega), rfl⟩
    · have hb : ((rr : Int) != 0) = true := by simp; omega
      have hh := Lib.bitLen_half rr h0 (by omega)
      have hnn : nn + (1 + Lib.bitLen (rr / 2)) = Lib.bitLen q := by rw [← hh]; exact hs.out
      have HN := hide hnn
      have hnn' : nn + 1 ≤ 64 := by omega
      clear hnn hh
      go_wp2
      go_round
      case rel => exact ⟨rr / 2, nn + 1, by go_num, by omega, by omega, hide (by have := unhide HN; omega), by go_num⟩
      case measure => simp [intOf]; omega
end Go.Proofs.Ybulkdtwm.B
