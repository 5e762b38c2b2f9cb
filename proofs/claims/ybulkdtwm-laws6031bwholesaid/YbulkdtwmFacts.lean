import Derived.Laws.BitsAllLaws
import Derived.Laws.Bits64
import Derived.Lib.BitFns
import Derived.Lib.ItoaNum
namespace Go.Proofs.Ybulkdtwm.B

/-! ### words -/
theorem or_low (a b : Nat) (k : Nat) (hb : b < 2 ^ k) : (a * 2 ^ k) ||| b = a * 2 ^ k + b := by
  rw [Nat.mul_comm, Nat.two_pow_add_eq_or_of_lt hb]
theorem or_bit0 (a b : Nat) (hb : b < 2) : (a * 2) ||| b = a * 2 + b := or_low a b 1 (by omega)

/-! ### the restoring division -/
/-- what has been taken in when n bits are left -/
def X (hi lo n : Nat) : Nat := hi * 2 ^ (64 - n) + lo / 2 ^ n
theorem X_end (hi lo : Nat) : X hi lo 0 = hi * 2 ^ 64 + lo := by simp [X]
theorem X_start (hi lo : Nat) (h : lo < 2 ^ 64) : X hi lo 64 = hi := by
  unfold X; rw [Nat.div_eq_of_lt h]; simp
theorem X_step (hi lo m : Nat) (hm : m < 64) : X hi lo m = 2 * X hi lo (m + 1) + lo / 2 ^ m % 2 := by
  unfold X
  rw [show 64 - m = (64 - (m + 1)) + 1 from by omega, Nat.pow_succ, Nat.pow_succ, ← Nat.div_div_eq_div_mul]
  generalize lo / 2 ^ m = y
  generalize 2 ^ (64 - (m + 1)) = p
  rw [Nat.mul_add, ← Nat.mul_assoc, Nat.mul_comm (hi * p) 2]
  omega
/-- the loop's relation -/
def DivInv (hi lo top n rr qq : Nat) : Prop := X hi lo n = qq * top + rr ∧ rr < top
theorem DivInv.hit {hi lo top m rr qq : Nat} (hm : m < 64) (h : DivInv hi lo top (m + 1) rr qq) (ht : top ≤ 2 * rr + lo / 2 ^ m % 2) :
    DivInv hi lo top m (2 * rr + lo / 2 ^ m % 2 - top) (2 * qq + 1) := by
  obtain ⟨e, hr⟩ := h
  refine ⟨?_, by omega⟩
  rw [X_step hi lo m hm, e, Nat.add_mul, Nat.mul_add, Nat.mul_assoc]
  omega
theorem DivInv.miss {hi lo top m rr qq : Nat} (hm : m < 64) (h : DivInv hi lo top (m + 1) rr qq) (ht : 2 * rr + lo / 2 ^ m % 2 < top) :
    DivInv hi lo top m (2 * rr + lo / 2 ^ m % 2) (2 * qq) := by
  obtain ⟨e, hr⟩ := h
  refine ⟨?_, ht⟩
  rw [X_step hi lo m hm, e, Nat.mul_add, Nat.mul_assoc]
  omega
theorem DivInv.start {hi lo top : Nat} (h : lo < 2 ^ 64) (ht : hi < top) : DivInv hi lo top 64 hi 0 := by
  refine ⟨?_, ht⟩
  rw [X_start hi lo h]; omega
def quoN (hi lo top : Nat) : Nat := (hi * 2 ^ 64 + lo) / top
theorem DivInv.out {hi lo top rr qq : Nat} (h : DivInv hi lo top 0 rr qq) : qq = quoN hi lo top := by
  unfold quoN
  obtain ⟨e, hr⟩ := h
  rw [← X_end, e, Nat.mul_comm, Nat.mul_add_div (by omega), Nat.div_eq_of_lt hr]; omega
/-- q fits what has been taken in -/
theorem DivInv.fits {hi lo top n rr qq : Nat} (hn : n ≤ 64) (hl : lo < 2 ^ 64) (h : DivInv hi lo top n rr qq) (ht : hi < top) : qq < 2 ^ (64 - n) := by
  obtain ⟨e, hr⟩ := h
  have h1 : lo / 2 ^ n < 2 ^ (64 - n) := by
    rw [Nat.div_lt_iff_lt_mul (Nat.two_pow_pos _), ← Nat.pow_add, show 64 - n + n = 64 from by omega]; exact hl
  have h2 : X hi lo n < top * 2 ^ (64 - n) := by
    unfold X
    have : (hi + 1) * 2 ^ (64 - n) ≤ top * 2 ^ (64 - n) := Nat.mul_le_mul_right _ ht
    rw [Nat.add_mul] at this
    omega
  apply Nat.lt_of_not_le
  intro h3
  have h4 : 2 ^ (64 - n) * top ≤ qq * top := Nat.mul_le_mul_right _ h3
  rw [Nat.mul_comm top] at h2
  omega

/-! ### its step, as the walk writes it -/
theorem bit_eq (lo m : Nat) (hl : lo ≤ 18446744073709551615) : bits .and .u64 ((lo : Int) / 2 ^ m) 1 = ((lo / 2 ^ m % 2 : Nat) : Int) := by
  have h1 : ((lo : Int) / 2 ^ m) = ((lo / 2 ^ m : Nat) : Int) := by rw [Int.natCast_ediv, Int.natCast_pow]; rfl
  have h2 : lo / 2 ^ m ≤ lo := Nat.div_le_self _ _
  rw [h1, show (1 : Int) = ((1 : Nat) : Int) from rfl, u64_and_nat _ _ (by omega) (by omega), nat_mask1]
theorem rem_eq (rr lo m : Nat) (hr : rr * 2 ≤ 18446744073709551615) (hl : lo ≤ 18446744073709551615) :
    bits .or .u64 ((rr : Int) * 2) (bits .and .u64 ((lo : Int) / 2 ^ m) 1) = ((2 * rr + lo / 2 ^ m % 2 : Nat) : Int) := by
  rw [bit_eq lo m hl, show ((rr : Int) * 2) = ((rr * 2 : Nat) : Int) from by omega, u64_or_nat _ _ (by omega) (by omega), or_bit0 _ _ (by omega)]
  omega
theorem rem_eq' (rr lo m : Nat) (hr : 9223372036854775808 ≤ rr) (hr2 : rr ≤ 18446744073709551615) (hl : lo ≤ 18446744073709551615) :
    bits .or .u64 (IntKind.u64.wrap ((rr : Int) * 2)) (bits .and .u64 ((lo : Int) / 2 ^ m) 1) = ((2 * rr + lo / 2 ^ m % 2 : Nat) : Int) - 18446744073709551616 := by
  have e : IntKind.u64.wrap ((rr : Int) * 2) = (((rr - 9223372036854775808) * 2 : Nat) : Int) := by rw [IntKind.wrap_u64]; omega
  rw [e, bit_eq lo m hl, u64_or_nat _ _ (by omega) (by omega), or_bit0 _ _ (by omega)]
  omega
theorem quo_eq (qq : Nat) (h : qq * 2 ≤ 18446744073709551615) : bits .or .u64 ((qq : Int) * 2) 1 = ((2 * qq + 1 : Nat) : Int) := by
  rw [show ((qq : Int) * 2) = ((qq * 2 : Nat) : Int) from by omega, show (1 : Int) = ((1 : Nat) : Int) from rfl, u64_or_nat _ _ (by omega) (by omega), or_bit0 _ _ (by omega)]
  omega
end Go.Proofs.Ybulkdtwm.B
