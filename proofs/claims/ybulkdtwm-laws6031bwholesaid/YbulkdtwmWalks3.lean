import Derived.Test.YbulkdtwmWalks2
import Derived.Test.YbulkdtwmFloat
import Derived.Laws.Externs
namespace Go.Proofs.Ybulkdtwm.B
open Go.ChangeShapes Go.WideShapes Go.ChangeAt Go.RowKit

theorem frombits (n : Int) (w : World) : (callFunc 15 #[.int .u64 n]).run Yba.prog w = .ok (.value (.float .f64 n.toNat)) w := by
  rw [run_callFunc_extern (e := Extern.MathFloatBits.float64frombits) Yba.func15 (by kernel_rfl) (by kernel_rfl) (by kernel_rfl) (by kernel_rfl)]
  rfl
theorem tobits (n : Nat) (w : World) : (callFunc 7 #[.float .f64 n]).run Yba.prog w = .ok (.value (.int .u64 n)) w := by
  rw [run_callFunc_extern (e := Extern.MathFloatBits.float64bits) Yba.func7 (by kernel_rfl) (by kernel_rfl) (by kernel_rfl) (by kernel_rfl)]
  rfl
theorem ret_float {a b : Nat} (h : a = b) : Ending.returned (.float .f64 a) = .returned (.float .f64 b) := by rw [h]

set_option maxRecDepth 100000 in
set_option maxHeartbeats 1000000 in
theorem norm_any (m : Nat) (e : Int) (w : World) (h1 : 4503599627370496 ≤ m) (h2 : m ≤ 9007199254740992) (h3 : -1074 ≤ e) (h4 : e ≤ 970) :
    Calls Yba.prog 11 #[.int .u64 m, .int .i64 e] w fun r w' => r = .returned (.float .f64 ((e + 1075).toNat * 4503599627370496 + m - 4503599627370496)) ∧ w' = w := by
  have hf := frombits
  go_enter Yba.func11, Yba.ntmps11
  go_wp2
  go_ret
  exact ⟨ret_float (by omega), rfl⟩

set_option maxRecDepth 100000 in
set_option maxHeartbeats 1000000 in
theorem abs_any (x : Nat) (w : World) (h : Plain x) :
    Calls Yba.prog 21 #[.float .f64 x] w fun r w' => r = .returned (.float .f64 x) ∧ w' = w := by
  have hf := frombits
  have hg := tobits
  have hlo := h.lo
  have hhi := h.hi
  have ha : bits .andNot .u64 (x : Int) 9223372036854775808 = (x : Int) := by
    rw [show (9223372036854775808 : Int) = ((9223372036854775808 : Nat) : Int) from rfl, u64_andNot_nat _ _ (by omega) (by omega)]
    rw [show 18446744073709551615 - 9223372036854775808 = 2 ^ 63 - 1 from rfl, Nat.and_two_pow_sub_one_eq_mod]
    omega
  go_enter Yba.func21, Yba.ntmps21
  go_wp2
  go_ret
  exact ⟨ret_float (by omega), rfl⟩

set_option maxRecDepth 100000 in
set_option maxHeartbeats 1000000 in
theorem isinf_any (x : Nat) (w : World) (h : Plain x) :
    Calls Yba.prog 16 #[.float .f64 x, .int .i64 0] w fun r w' => r = .returned (.bool false) ∧ w' = w := by
  have ha := abs_any x w h
  have ho := h.not_inf
  go_enter Yba.func16, Yba.ntmps16
  go_wp2_with (go_at_call 21; refine ha.mono ?_; rintro e w' ⟨rfl, rfl⟩)
  go_ret
  exact ⟨rfl, rfl⟩

set_option maxRecDepth 100000 in
set_option maxHeartbeats 1000000 in
theorem isnan_any (x : Nat) (w : World) (h : Plain x) :
    Calls Yba.prog 17 #[.float .f64 x] w fun r w' => r = .returned (.bool false) ∧ w' = w := by
  have ho := h.not_nan
  go_enter Yba.func17, Yba.ntmps17
  go_wp2
  go_ret
  exact ⟨rfl, rfl⟩

set_option maxRecDepth 100000 in
set_option maxHeartbeats 1000000 in
theorem normalize_any (x : Nat) (w : World) (h : Plain x) :
    Calls Yba.prog 18 #[.float .f64 x] w fun r w' => r = .returned (.tuple #[.float .f64 x, .int .i64 0]) ∧ w' = w := by
  have ha := abs_any x w h
  have ho := h.not_small
  go_enter Yba.func18, Yba.ntmps18
  go_wp2_with (go_at_call 21; refine ha.mono ?_; rintro e w' ⟨rfl, rfl⟩)
  go_ret2
  exact ⟨rfl, rfl⟩

theorem i64_and2047 (n : Nat) (h : n < 2048) : bits .and .i64 (n : Int) 2047 = (n : Int) := by
  have h127 : (BitVec.ofInt 64 2047).toNat = 2 ^ 11 - 1 := by decide
  have key : (BitVec.ofInt 64 (n : Int) &&& BitVec.ofInt 64 2047).toNat = ((n : Int) % ((2 ^ 64 : Nat) : Int)).toNat % 2 ^ 11 := by
    rw [BitVec.toNat_and, BitVec.toNat_ofInt, h127, Nat.and_two_pow_sub_one_eq_mod]
  show IntKind.i64.wrap ((BitVec.ofInt 64 (n : Int) &&& BitVec.ofInt 64 2047).toNat : Nat) = _
  rw [key, IntKind.wrap_i64]
  omega
theorem andNot_top (x : Nat) (h : x < 9223372036854775808) : bits .andNot .u64 (x : Int) 9218868437227405312 = ((x % 4503599627370496 : Nat) : Int) := by
  rw [show (9218868437227405312 : Int) = ((9218868437227405312 : Nat) : Int) from rfl, u64_andNot_nat _ _ (by omega) (by omega)]
  have h1 : x &&& (18446744073709551615 - 9218868437227405312) = x % 4503599627370496 := by
    have hx : x = x &&& (2 ^ 63 - 1) := by rw [Nat.and_two_pow_sub_one_eq_mod]; omega
    rw [hx, Nat.and_assoc, show (2 ^ 63 - 1 : Nat) &&& (18446744073709551615 - 9218868437227405312) = 2 ^ 52 - 1 from by decide, Nat.and_two_pow_sub_one_eq_mod, ← hx]
  rw [h1]
theorem or_field (r : Nat) (z : Int) (hr : r < 4503599627370496) (h0 : 0 ≤ z) (h1 : z < 4096) : bits .or .u64 (r : Int) (z * 4503599627370496) = z * 4503599627370496 + r := by
  obtain ⟨Z, rfl⟩ := Int.eq_ofNat_of_zero_le h0
  rw [show ((Z : Int) * 4503599627370496) = ((Z * 4503599627370496 : Nat) : Int) from by omega, u64_or_nat _ _ (by omega) (by omega), Nat.or_comm]
  rw [show (4503599627370496 : Nat) = 2 ^ 52 from rfl, or_low Z r 52 (by omega)]
  omega

set_option maxRecDepth 100000 in
set_option maxHeartbeats 1000000 in
theorem ldexp_any (x E r : Nat) (e : Int) (w : World) (h : Plain x) (hE : x / 4503599627370496 = E) (hr : x % 4503599627370496 = r) (h1 : -1022 ≤ e + (E : Int) - 1023) (h2 : e + (E : Int) - 1023 ≤ 1023) (he1 : -4096 < e) (he2 : e < 4096) :
    Calls Yba.prog 13 #[.float .f64 x, .int .i64 e] w fun r' w' => r' = .returned (.float .f64 ((e + (E : Int)).toNat * 4503599627370496 + r)) ∧ w' = w := by
  have hi := isinf_any x w h
  have hn := isnan_any x w h
  have hm := normalize_any x w h
  have hz := h.ne_zero
  have hf := frombits
  have hg := tobits
  have hlo := h.lo
  have hhi := h.hi
  have hE1 : 1023 ≤ E := by omega
  have hE2 : E ≤ 1089 := by omega
  have hr1 : r < 4503599627370496 := by omega
  have hx : ((x : Int) / 4503599627370496) = (E : Int) := by omega
  have ha := i64_and2047 E (by omega)
  have hb := andNot_top x (by omega)
  rw [hr] at hb
  have ho := or_field r (e + ((E : Int) - 1023) + 1023) hr1 (by omega) (by omega)
  have hmul := fun w => run_float_arith (P := Yba.prog) w .mul 26 .f64 4607182418800017408 (((e + ((E : Int) - 1023) + 1023) * 4503599627370496 + r).toNat) _ (mul_one _ (by omega) (by omega))
  have hd1 : decide (e + ((E : Int) - 1023) < -1075) = false := decide_eq_false (by omega)
  have hd2 : decide (1023 < e + ((E : Int) - 1023)) = false := decide_eq_false (by omega)
  have hd3 : decide (e + ((E : Int) - 1023) < -1022) = false := decide_eq_false (by omega)
  clear h hE hr
  go_enter Yba.func13, Yba.ntmps13
  go_wp2_with (first | (go_at_call 16; refine hi.mono ?_; rintro e w' ⟨rfl, rfl⟩) | (go_at_call 17; refine hn.mono ?_; rintro e w' ⟨rfl, rfl⟩) | (go_at_call 18; refine hm.mono ?_; rintro e w' ⟨rfl, rfl⟩))
  go_ret
  exact ⟨ret_float (by omega), rfl⟩

set_option maxRecDepth 100000 in
set_option maxHeartbeats 1000000 in
theorem Ldexp_any (x E r : Nat) (e : Int) (w : World) (h : Plain x) (hE : x / 4503599627370496 = E) (hr : x % 4503599627370496 = r) (h1 : -1022 ≤ e + (E : Int) - 1023) (h2 : e + (E : Int) - 1023 ≤ 1023) (he1 : -4096 < e) (he2 : e < 4096) :
    Calls Yba.prog 8 #[.float .f64 x, .int .i64 e] w fun r' w' => r' = .returned (.float .f64 ((e + (E : Int)).toNat * 4503599627370496 + r)) ∧ w' = w := by
  have hl := ldexp_any x E r e w h hE hr h1 h2 he1 he2
  clear h hE hr
  go_enter Yba.func8, Yba.ntmps8
  go_wp2_with (go_at_call 13; refine hl.mono ?_; rintro e w' ⟨rfl, rfl⟩)
  go_ret
  exact ⟨rfl, rfl⟩
end Go.Proofs.Ybulkdtwm.B
