import Derived.Test.YbulkdtwmWalks5
namespace Go.Proofs.Ybulkdtwm.B
open Go.ChangeShapes Go.WideShapes Go.ChangeAt Go.RowKit

theorem quo_lo (HI LO TOP : Nat) (h1 : 4611686018427387904 ≤ HI) (h2 : 0 < TOP) (h3 : TOP ≤ 18446744073709551615) : 4611686018427387904 ≤ quoN HI LO TOP := by
  unfold quoN
  rw [Nat.le_div_iff_mul_le h2]
  have : 4611686018427387904 * TOP ≤ 4611686018427387904 * 18446744073709551615 := Nat.mul_le_mul_left _ h3
  omega
theorem quo_hi (HI LO TOP : Nat) (h1 : HI < TOP) (h2 : LO ≤ 18446744073709551615) : quoN HI LO TOP < 18446744073709551616 := by
  unfold quoN
  rw [Nat.div_lt_iff_lt_mul (by omega)]
  have : (HI + 1) * 18446744073709551616 ≤ TOP * 18446744073709551616 := Nat.mul_le_mul_right _ h1
  omega
theorem bitLen_63 (q : Nat) (h1 : 4611686018427387904 ≤ q) (h2 : q < 9223372036854775808) : Lib.bitLen q = 63 := by
  have h := Lib.bitLen_shift 62 q h1 (by omega)
  have e : q / 2 ^ 62 = 1 := by omega
  rw [h, e]; rfl

theorem hi_eq (a0 : Int) (h0 : 0 ≤ a0) (h1 : a0 ≤ 18446744073709551615) :
    ∃ HI : Nat, bits .or .u64 (bits .andNot .u64 a0 9223372036854775808) 4611686018427387904 = (HI : Int) ∧ 4611686018427387904 ≤ HI ∧ HI < 9223372036854775808 := by
  obtain ⟨A, rfl⟩ := Int.eq_ofNat_of_zero_le h0
  rw [show (9223372036854775808 : Int) = ((9223372036854775808 : Nat) : Int) from rfl, u64_andNot_nat _ _ (by omega) (by omega)]
  have e1 : A &&& (18446744073709551615 - 9223372036854775808) = A % 9223372036854775808 := by
    rw [show 18446744073709551615 - 9223372036854775808 = 2 ^ 63 - 1 from rfl, Nat.and_two_pow_sub_one_eq_mod]
  rw [e1, show (4611686018427387904 : Int) = ((4611686018427387904 : Nat) : Int) from rfl, u64_or_nat _ _ (by omega) (by omega)]
  refine ⟨_, rfl, Nat.right_le_or, ?_⟩
  exact Nat.or_lt_two_pow (n := 63) (by omega) (by omega)
theorem top_eq (a2 : Int) (h0 : 0 ≤ a2) (h1 : a2 ≤ 18446744073709551615) :
    ∃ TOP : Nat, bits .or .u64 a2 9223372036854775808 = (TOP : Int) ∧ 9223372036854775808 ≤ TOP ∧ TOP ≤ 18446744073709551615 := by
  obtain ⟨A, rfl⟩ := Int.eq_ofNat_of_zero_le h0
  rw [show (9223372036854775808 : Int) = ((9223372036854775808 : Nat) : Int) from rfl, u64_or_nat _ _ (by omega) (by omega)]
  refine ⟨_, rfl, Nat.right_le_or, ?_⟩
  have : A ||| 9223372036854775808 < 2 ^ 64 := Nat.or_lt_two_pow (n := 64) (by omega) (by omega)
  omega

theorem div_is (HI LO TOP : Nat) (w : World) (h1 : HI < TOP) (h2 : TOP ≤ 18446744073709551615) (h3 : LO ≤ 18446744073709551615) (h4 : 9223372036854775808 ≤ TOP) (h5 : 0 < HI) :
    Calls Yba.prog 9 #[.int .u64 HI, .int .u64 LO, .int .u64 TOP] w fun e w' => DivIs (quoN HI LO TOP) w e w' :=
  div64_any HI LO TOP w h1 h2 h3 h4 h5

theorem len5 (q L : Nat) (w : World) (h : q ≤ 18446744073709551615) (hL : Lib.bitLen q = L) :
    Calls Yba.prog 5 #[.int .u64 q] w fun e w' => e = .returned (.int .i64 L) ∧ w' = w := by
  rw [← hL]; exact len_any q w h
theorem len10 (q L : Nat) (w : World) (h : q ≤ 18446744073709551615) (hL : Lib.bitLen q = L) :
    Calls Yba.prog 10 #[.int .u64 q] w fun e w' => e = .returned (.int .i64 L) ∧ w' = w := by
  have := Yba.bits_Len64 (q : Int) w (by omega) (by omega)
  rw [Int.toNat_natCast, hL] at this
  exact this

/-- the word of float64(q), and what Ldexp makes of it -/
theorem ld (q d cut F : Nat) (e : Int) (w : World) (hd : d = 10 ∨ d = 11) (h1 : 2 ^ (d + 52) ≤ q) (h2 : q < 2 ^ (d + 53)) (hc : q % 2 ^ d = cut) (hne : 2 * cut ≠ 2 ^ d)
    (e1 : -1022 ≤ e + d + 52) (e2 : e + d + 53 < 1024) (he1 : -4096 < e) (he2 : e < 4096)
    (hF : F = (e + d + 1075).toNat * 4503599627370496 + (q / 2 ^ d + (decide (2 ^ d < 2 * cut)).toNat) - 4503599627370496) :
    ∃ x, floatOfInt .f64 (q : Int) = x ∧ Calls Yba.prog 8 #[.float .f64 x, .int .i64 e] w fun r w' => r = .returned (.float .f64 F) ∧ w' = w := by
  have hfi := of_int q d hd h1 h2 (by rw [hc]; exact hne)
  rw [hc] at hfi
  have m1 : 4503599627370496 ≤ q / 2 ^ d := by
    rw [Nat.le_div_iff_mul_le (Nat.two_pow_pos _), show (4503599627370496 : Nat) = 2 ^ 52 from rfl, ← Nat.pow_add, Nat.add_comm 52 d]; exact h1
  have m2 : q / 2 ^ d < 9007199254740992 := by
    rw [Nat.div_lt_iff_lt_mul (Nat.two_pow_pos _), show (9007199254740992 : Nat) = 2 ^ 53 from rfl, ← Nat.pow_add, Nat.add_comm 53 d]; exact h2
  have u1 : (decide (2 ^ d < 2 * cut)).toNat ≤ 1 := Bool.toNat_le _
  generalize (decide (2 ^ d < 2 * cut)).toNat = u at *
  generalize q / 2 ^ d = m at *
  refine ⟨_, hfi, ?_⟩
  have hl := Ldexp_any ((d + 1074) * 4503599627370496 + (m + u)) _ _ e w ⟨by omega, by omega⟩ rfl rfl (by omega) (by omega) he1 he2
  refine hl.mono ?_
  rintro r w' ⟨rfl, rfl⟩
  refine ⟨ret_float ?_, rfl⟩
  rw [hF]
  omega

theorem law_any (a0 a1 a2 a3 a4 : Int) (w : World) (p0 : 0 ≤ a0 ∧ a0 ≤ 18446744073709551615) (p1 : 0 ≤ a1 ∧ a1 ≤ 18446744073709551615) (p2 : 0 ≤ a2 ∧ a2 ≤ 18446744073709551615)
    (_p3 : -9223372036854775808 ≤ a3 ∧ a3 ≤ 9223372036854775807) (p4 : 0 ≤ a4 ∧ a4 ≤ 18446744073709551615) :
    Calls Yba.prog 3 #[.int .u64 a0, .int .u64 a1, .int .u64 a2, .int .i64 a3, .int .u64 a4] w fun r w' => r = .returned (.bool true) ∧ w' = w := by
  obtain ⟨HI, hhi, hi1, hi2⟩ := hi_eq a0 p0.1 p0.2
  obtain ⟨TOP, htop, t1, t2⟩ := top_eq a2 p2.1 p2.2
  obtain ⟨LO, rfl⟩ := Int.eq_ofNat_of_zero_le p1.1
  obtain ⟨off, hoff⟩ : ∃ off : Nat, a4 % 256 = (off : Int) := ⟨(a4 % 256).toNat, by omega⟩
  obtain ⟨e, hexp⟩ : ∃ e : Int, a3.tmod 4096 = e := ⟨_, rfl⟩
  have he : -4096 < e ∧ e < 4096 := by
    rw [← hexp]
    constructor
    · exact Int.lt_tmod_of_pos a3 (by omega)
    · exact Int.tmod_lt_of_pos a3 (by omega)
  have ql := quo_lo HI LO TOP hi1 (by omega) t2
  have qh := quo_hi HI LO TOP (by omega) (by omega)
  have hd9 := div_is HI LO TOP w (by omega) t2 (by omega) t1 (by omega)
  have hd4 := div_any HI LO TOP w (by omega) t2 (by omega)
  generalize quoN HI LO TOP = q at *
  by_cases hb : q < 9223372036854775808
  · have hL := bitLen_63 q ql hb
    have l5 := len5 q 63 w (by omega) hL
    have l10 := len10 q 63 w (by omega) hL
    by_cases hno : ((512 ≤ q % 1024 + off ∧ q % 1024 ≤ 512 + off) ∨ e + 10 + 52 < -1022 ∨ 1024 ≤ e + 10 + 53)
    · exact law10_no a0 a2 a3 a4 HI LO TOP q e off (q % 1024) w hhi htop hexp hoff p4.1 (by omega) he.1 he.2 ql hb rfl hd4 l5 hno
        (near10_no HI LO TOP q e off (q % 1024) w hd9 l10 rfl (by omega) (by omega) he.1 he.2 hno)
    · obtain ⟨x, hx, hld⟩ := ld q 10 (q % 1024) _ e w (Or.inl rfl) ql hb rfl (by omega) (by omega) (by omega) he.1 he.2 rfl
      exact law10_yes a0 a2 a3 a4 HI LO TOP q e off (q % 1024) w hhi htop hexp hoff p4.1 (by omega) he.1 he.2 ql hb rfl hd4 l5 (by omega) (by omega) (by omega) _ x
        (near10_yes HI LO TOP q e off (q % 1024) w hd9 l10 rfl (by omega) ql hb (by omega) he.1 he.2 (by omega) (by omega) (by omega)) hx hld
  · have hL := bitLen_top q (by omega) (by omega)
    have l5 := len5 q 64 w (by omega) hL
    have l10 := len10 q 64 w (by omega) hL
    have ql' : 9223372036854775808 ≤ q := by omega
    by_cases hno : ((1024 ≤ q % 2048 + off ∧ q % 2048 ≤ 1024 + off) ∨ e + 11 + 52 < -1022 ∨ 1024 ≤ e + 11 + 53)
    · exact law11_no a0 a2 a3 a4 HI LO TOP q e off (q % 2048) w hhi htop hexp hoff p4.1 (by omega) he.1 he.2 ql' qh rfl hd4 l5 hno
        (near11_no HI LO TOP q e off (q % 2048) w hd9 l10 rfl (by omega) (by omega) he.1 he.2 hno)
    · obtain ⟨x, hx, hld⟩ := ld q 11 (q % 2048) _ e w (Or.inr rfl) ql' qh rfl (by omega) (by omega) (by omega) he.1 he.2 rfl
      exact law11_yes a0 a2 a3 a4 HI LO TOP q e off (q % 2048) w hhi htop hexp hoff p4.1 (by omega) he.1 he.2 ql' qh rfl hd4 l5 (by omega) (by omega) (by omega) _ x
        (near11_yes HI LO TOP q e off (q % 2048) w hd9 l10 rfl (by omega) ql' qh (by omega) he.1 he.2 (by omega) (by omega) (by omega)) hx hld
end Go.Proofs.Ybulkdtwm.B
