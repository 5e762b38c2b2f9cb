import Derived.Test.YbulkdtwmWalks3
namespace Go.Proofs.Ybulkdtwm.B
open Go.ChangeShapes Go.WideShapes Go.ChangeAt Go.RowKit

def DivIs (q : Nat) (w : World) (e : Ending) (w' : World) : Prop :=
  ∃ r : Int, e = .returned (.tuple #[.int .u64 q, .int .u64 r]) ∧ w' = w

set_option maxRecDepth 100000 in
set_option maxHeartbeats 1000000 in
theorem near10_no (hi lo top q : Nat) (e : Int) (off cut : Nat) (w : World)
    (hdiv : Calls Yba.prog 9 #[.int .u64 hi, .int .u64 lo, .int .u64 top] w fun e w' => DivIs q w e w')
    (hlen : Calls Yba.prog 10 #[.int .u64 q] w fun e w' => e = .returned (.int .i64 63) ∧ w' = w)
    (hcutq : q % 1024 = cut) (hq : q ≤ 18446744073709551615) (hoff : off < 256) (he1 : -4096 < e) (he2 : e < 4096)
    (hno : (512 ≤ cut + off ∧ cut ≤ 512 + off) ∨ e + 10 + 52 < -1022 ∨ 1024 ≤ e + 10 + 53) :
    Calls Yba.prog 6 #[.int .u64 hi, .int .u64 lo, .int .u64 top, .int .i64 e, .int .u64 off] w fun r w' => r = .returned (.tuple #[.float .f64 0, .bool false]) ∧ w' = w := by
  have ec : bits .and .u64 (q : Int) 1023 = (cut : Int) := by
    rw [show (1023 : Int) = ((1023 : Nat) : Int) from rfl, u64_and_nat _ _ (by omega) (by omega), nat_mask10, hcutq]
  have hcut : cut < 1024 := by omega
  have HN := hide hno
  clear hcutq hno
  go_enter Yba.func6, Yba.ntmps6
  go_wp2_with (first | (go_at_call 9; refine hdiv.mono ?_; rintro e w' ⟨r, rfl, rfl⟩) | (go_at_call 10; refine hlen.mono ?_; rintro e w' ⟨rfl, rfl⟩))
  all_goals first | (go_ret2; exact ⟨rfl, rfl⟩) | (exfalso; have := unhide HN; omega)

set_option maxRecDepth 100000 in
set_option maxHeartbeats 1000000 in
theorem near10_yes (hi lo top q : Nat) (e : Int) (off cut : Nat) (w : World)
    (hdiv : Calls Yba.prog 9 #[.int .u64 hi, .int .u64 lo, .int .u64 top] w fun e w' => DivIs q w e w')
    (hlen : Calls Yba.prog 10 #[.int .u64 q] w fun e w' => e = .returned (.int .i64 63) ∧ w' = w)
    (hcutq : q % 1024 = cut) (hq : q ≤ 18446744073709551615) (hqlo : 4611686018427387904 ≤ q) (hqhi : q < 9223372036854775808) (hoff : off < 256) (he1 : -4096 < e) (he2 : e < 4096)
    (hno : ¬ (512 ≤ cut + off ∧ cut ≤ 512 + off)) (h1 : -1022 ≤ e + 10 + 52) (h2 : e + 10 + 53 < 1024) :
    Calls Yba.prog 6 #[.int .u64 hi, .int .u64 lo, .int .u64 top, .int .i64 e, .int .u64 off] w fun r w' => r = .returned (.tuple #[.float .f64 ((e + 10 + 1075).toNat * 4503599627370496 + (q / 1024 + (decide (1024 < 2 * cut)).toNat) - 4503599627370496), .bool true]) ∧ w' = w := by
  have ec : bits .and .u64 (q : Int) 1023 = (cut : Int) := by
    rw [show (1023 : Int) = ((1023 : Nat) : Int) from rfl, u64_and_nat _ _ (by omega) (by omega), nat_mask10, hcutq]
  have hcut : cut < 1024 := by omega
  obtain ⟨m, Hm⟩ : ∃ m, q / 1024 = m := ⟨_, rfl⟩
  have em : ((q : Int) / 1024) = (m : Int) := by omega
  have hm1 : 4503599627370496 ≤ m := by omega
  have hm2 : m < 9007199254740992 := by omega
  rw [Hm]
  clear hcutq Hm hqlo hqhi
  by_cases hup : 512 < cut
  · have hdec : decide (1024 < 2 * cut) = true := decide_eq_true (by omega)
    have hlow : ¬ cut ≤ 512 + off := by omega
    rw [hdec]
    have hn := norm_any (m + 1) (e + 10) w (by omega) (by omega) (by omega) (by omega)
    clear hdec hno
    have HU := hide hup
    go_enter Yba.func6, Yba.ntmps6
    go_wp2_with (first | (go_at_call 9; refine hdiv.mono ?_; rintro e w' ⟨r, rfl, rfl⟩) | (go_at_call 10; refine hlen.mono ?_; rintro e w' ⟨rfl, rfl⟩) | (go_at_call 11; refine hn.mono ?_; rintro e w' ⟨rfl, rfl⟩))
    go_ret2
    exact ⟨rfl, rfl⟩
  · have hdec : decide (1024 < 2 * cut) = false := decide_eq_false (by omega)
    have hlow : ¬ 512 ≤ cut + off := by omega
    rw [hdec]
    have hn := norm_any m (e + 10) w (by omega) (by omega) (by omega) (by omega)
    clear hdec hno
    go_enter Yba.func6, Yba.ntmps6
    go_wp2_with (first | (go_at_call 9; refine hdiv.mono ?_; rintro e w' ⟨r, rfl, rfl⟩) | (go_at_call 10; refine hlen.mono ?_; rintro e w' ⟨rfl, rfl⟩) | (go_at_call 11; refine hn.mono ?_; rintro e w' ⟨rfl, rfl⟩))
    go_ret2
    exact ⟨rfl, rfl⟩

set_option maxRecDepth 100000 in
set_option maxHeartbeats 1000000 in
theorem near11_no (hi lo top q : Nat) (e : Int) (off cut : Nat) (w : World)
    (hdiv : Calls Yba.prog 9 #[.int .u64 hi, .int .u64 lo, .int .u64 top] w fun e w' => DivIs q w e w')
    (hlen : Calls Yba.prog 10 #[.int .u64 q] w fun e w' => e = .returned (.int .i64 64) ∧ w' = w)
    (hcutq : q % 2048 = cut) (hq : q ≤ 18446744073709551615) (hoff : off < 256) (he1 : -4096 < e) (he2 : e < 4096)
    (hno : (1024 ≤ cut + off ∧ cut ≤ 1024 + off) ∨ e + 11 + 52 < -1022 ∨ 1024 ≤ e + 11 + 53) :
    Calls Yba.prog 6 #[.int .u64 hi, .int .u64 lo, .int .u64 top, .int .i64 e, .int .u64 off] w fun r w' => r = .returned (.tuple #[.float .f64 0, .bool false]) ∧ w' = w := by
  have ec : bits .and .u64 (q : Int) 2047 = (cut : Int) := by
    rw [show (2047 : Int) = ((2047 : Nat) : Int) from rfl, u64_and_nat _ _ (by omega) (by omega), nat_mask11, hcutq]
  have hcut : cut < 2048 := by omega
  have HN := hide hno
  clear hcutq hno
  go_enter Yba.func6, Yba.ntmps6
  go_wp2_with (first | (go_at_call 9; refine hdiv.mono ?_; rintro e w' ⟨r, rfl, rfl⟩) | (go_at_call 10; refine hlen.mono ?_; rintro e w' ⟨rfl, rfl⟩))
  all_goals first | (go_ret2; exact ⟨rfl, rfl⟩) | (exfalso; have := unhide HN; omega)

set_option maxRecDepth 100000 in
set_option maxHeartbeats 1000000 in
theorem near11_yes (hi lo top q : Nat) (e : Int) (off cut : Nat) (w : World)
    (hdiv : Calls Yba.prog 9 #[.int .u64 hi, .int .u64 lo, .int .u64 top] w fun e w' => DivIs q w e w')
    (hlen : Calls Yba.prog 10 #[.int .u64 q] w fun e w' => e = .returned (.int .i64 64) ∧ w' = w)
    (hcutq : q % 2048 = cut) (hq : q ≤ 18446744073709551615) (hqlo : 9223372036854775808 ≤ q) (hqhi : q < 18446744073709551616) (hoff : off < 256) (he1 : -4096 < e) (he2 : e < 4096)
    (hno : ¬ (1024 ≤ cut + off ∧ cut ≤ 1024 + off)) (h1 : -1022 ≤ e + 11 + 52) (h2 : e + 11 + 53 < 1024) :
    Calls Yba.prog 6 #[.int .u64 hi, .int .u64 lo, .int .u64 top, .int .i64 e, .int .u64 off] w fun r w' => r = .returned (.tuple #[.float .f64 ((e + 11 + 1075).toNat * 4503599627370496 + (q / 2048 + (decide (2048 < 2 * cut)).toNat) - 4503599627370496), .bool true]) ∧ w' = w := by
  have ec : bits .and .u64 (q : Int) 2047 = (cut : Int) := by
    rw [show (2047 : Int) = ((2047 : Nat) : Int) from rfl, u64_and_nat _ _ (by omega) (by omega), nat_mask11, hcutq]
  have hcut : cut < 2048 := by omega
  obtain ⟨m, Hm⟩ : ∃ m, q / 2048 = m := ⟨_, rfl⟩
  have em : ((q : Int) / 2048) = (m : Int) := by omega
  have hm1 : 4503599627370496 ≤ m := by omega
  have hm2 : m < 9007199254740992 := by omega
  rw [Hm]
  clear hcutq Hm hqlo hqhi
  by_cases hup : 1024 < cut
  · have hdec : decide (2048 < 2 * cut) = true := decide_eq_true (by omega)
    have hlow : ¬ cut ≤ 1024 + off := by omega
    rw [hdec]
    have hn := norm_any (m + 1) (e + 11) w (by omega) (by omega) (by omega) (by omega)
    clear hdec hno
    have HU := hide hup
    go_enter Yba.func6, Yba.ntmps6
    go_wp2_with (first | (go_at_call 9; refine hdiv.mono ?_; rintro e w' ⟨r, rfl, rfl⟩) | (go_at_call 10; refine hlen.mono ?_; rintro e w' ⟨rfl, rfl⟩) | (go_at_call 11; refine hn.mono ?_; rintro e w' ⟨rfl, rfl⟩))
    go_ret2
    exact ⟨rfl, rfl⟩
  · have hdec : decide (2048 < 2 * cut) = false := decide_eq_false (by omega)
    have hlow : ¬ 1024 ≤ cut + off := by omega
    rw [hdec]
    have hn := norm_any m (e + 11) w (by omega) (by omega) (by omega) (by omega)
    clear hdec hno
    go_enter Yba.func6, Yba.ntmps6
    go_wp2_with (first | (go_at_call 9; refine hdiv.mono ?_; rintro e w' ⟨r, rfl, rfl⟩) | (go_at_call 10; refine hlen.mono ?_; rintro e w' ⟨rfl, rfl⟩) | (go_at_call 11; refine hn.mono ?_; rintro e w' ⟨rfl, rfl⟩))
    go_ret2
    exact ⟨rfl, rfl⟩
end Go.Proofs.Ybulkdtwm.B
