import Derived.Test.YbulkdtwmFacts
namespace Go.Proofs.Ybulkdtwm.B

/-! ### Knuth's estimate of a digit -/
/-- U: what is left above; u1: the next digit; y = y1 * 2^32 + y0 -/
structure Dig (U u1 y1 y0 : Nat) : Prop where
  hu1 : u1 < 4294967296
  hy1 : 2147483648 ≤ y1
  hy1' : y1 < 4294967296
  hy0 : y0 < 4294967296
  hU : U < y1 * 4294967296 + y0

def digQ (U u1 y1 y0 : Nat) : Nat := (U * 4294967296 + u1) / (y1 * 4294967296 + y0)

theorem Dig.lt {U u1 y1 y0 : Nat} (d : Dig U u1 y1 y0) : digQ U u1 y1 y0 < 4294967296 := by
  obtain ⟨a, b, c, e, f⟩ := d
  unfold digQ
  rw [Nat.div_lt_iff_lt_mul (by omega)]
  omega

/-- the digit is q where q * y fits and (q + 1) * y does not -/
theorem Dig.le_of {U u1 y1 y0 q : Nat} (d : Dig U u1 y1 y0) (h : q * (y1 * 4294967296 + y0) ≤ U * 4294967296 + u1) : q ≤ digQ U u1 y1 y0 := by
  unfold digQ
  have := d.hy1
  rw [Nat.le_div_iff_mul_le (by omega)]
  exact h
theorem Dig.gt_of {U u1 y1 y0 q : Nat} (d : Dig U u1 y1 y0) (h : U * 4294967296 + u1 < q * (y1 * 4294967296 + y0)) : digQ U u1 y1 y0 < q := by
  unfold digQ
  have := d.hy1
  rw [Nat.div_lt_iff_lt_mul (by omega)]
  exact h

structure QInv (U u1 y1 y0 q r : Nat) : Prop where
  eq : q * y1 + r = U
  le : digQ U u1 y1 y0 ≤ q
  hq : q ≤ 4294967297
  hr : r < 4294967296

theorem Dig.start {U u1 y1 y0 : Nat} (d : Dig U u1 y1 y0) : QInv U u1 y1 y0 (U / y1) (U % y1) := by
  obtain ⟨a, b, c, e, f⟩ := d
  refine ⟨by rw [Nat.mul_comm]; exact Nat.div_add_mod U y1, ?_, ?_, Nat.lt_trans (Nat.mod_lt _ (by omega)) c⟩
  · rw [Nat.le_div_iff_mul_le (by omega)]
    have h1 : digQ U u1 y1 y0 * (y1 * 4294967296 + y0) ≤ U * 4294967296 + u1 := Nat.div_mul_le_self _ _
    rw [Nat.mul_add, ← Nat.mul_assoc] at h1
    generalize digQ U u1 y1 y0 * y1 = p at *
    generalize digQ U u1 y1 y0 * y0 = p2 at *
    omega
  · have : U / y1 < 4294967298 := by
      rw [Nat.div_lt_iff_lt_mul (by omega)]
      omega
    omega

theorem expand (q y1 y0 : Nat) : q * (y1 * 4294967296 + y0) = q * y1 * 4294967296 + q * y0 := by
  rw [Nat.mul_add, Nat.mul_assoc]

/-- the test said yes: the digit is below q -/
theorem QInv.yes {U u1 y1 y0 q r : Nat} (d : Dig U u1 y1 y0) (h : QInv U u1 y1 y0 q r) (ht : 4294967296 ≤ q ∨ 4294967296 * r + u1 < q * y0) : digQ U u1 y1 y0 < q := by
  rcases ht with ht | ht
  · exact Nat.lt_of_lt_of_le d.lt ht
  · apply d.gt_of
    rw [expand, ← h.eq]
    generalize q * y1 = p at *
    generalize q * y0 = p2 at *
    omega
/-- the test said no: q is the digit -/
theorem QInv.no {U u1 y1 y0 q r : Nat} (d : Dig U u1 y1 y0) (h : QInv U u1 y1 y0 q r) (ht : q * y0 ≤ 4294967296 * r + u1) : q = digQ U u1 y1 y0 := by
  refine Nat.le_antisymm (d.le_of ?_) h.le
  rw [expand, ← h.eq]
  generalize q * y1 = p at *
  generalize q * y0 = p2 at *
  omega
theorem QInv.next {U u1 y1 y0 q r : Nat} (d : Dig U u1 y1 y0) (h : QInv U u1 y1 y0 (q + 1) r) (ht : 4294967296 ≤ q + 1 ∨ 4294967296 * r + u1 < (q + 1) * y0) (hr : r + y1 < 4294967296) :
    QInv U u1 y1 y0 q (r + y1) := by
  have hy := h.yes d ht
  obtain ⟨a, b, c, e⟩ := h
  refine ⟨?_, by omega, by omega, hr⟩
  rw [Nat.add_mul] at a
  omega
theorem QInv.brk {U u1 y1 y0 q r : Nat} (d : Dig U u1 y1 y0) (h : QInv U u1 y1 y0 (q + 1) r) (ht : 4294967296 ≤ q + 1 ∨ 4294967296 * r + u1 < (q + 1) * y0) (hr : 4294967296 ≤ r + y1) :
    q = digQ U u1 y1 y0 := by
  have hy := h.yes d ht
  refine Nat.le_antisymm (d.le_of ?_) (by omega)
  obtain ⟨a, b, c, e⟩ := h
  rw [Nat.add_mul] at a
  rw [expand]
  have h1 : q * y0 ≤ 4294967296 * y0 := Nat.mul_le_mul_right _ (by omega)
  have := d.hy0
  generalize q * y1 = p at *
  generalize q * y0 = p2 at *
  omega

/-- what is left behind the digit -/
def digR (U u1 y1 y0 : Nat) : Nat := (U * 4294967296 + u1) % (y1 * 4294967296 + y0)
theorem Dig.rem {U u1 y1 y0 : Nat} (d : Dig U u1 y1 y0) : digR U u1 y1 y0 < y1 * 4294967296 + y0 := Nat.mod_lt _ (by have := d.hy1; omega)
theorem dig_eq (U u1 y1 y0 : Nat) : digQ U u1 y1 y0 * (y1 * 4294967296 + y0) + digR U u1 y1 y0 = U * 4294967296 + u1 := by
  unfold digQ digR
  rw [Nat.mul_comm]; exact Nat.div_add_mod _ _

theorem two_core (hi lo l1 l0 Q1 R1 Q0 R0 Y : Nat) (e : Q1 * Y + R1 = hi * 4294967296 + l1) (e2 : Q0 * Y + R0 = R1 * 4294967296 + l0) (hl : lo = l1 * 4294967296 + l0) (r2 : R0 < Y) :
    (hi * 2 ^ 64 + lo) / Y = Q1 * 4294967296 + Q0 := by
  have key : hi * 2 ^ 64 + lo = (Q1 * 4294967296 + Q0) * Y + R0 := by
    rw [Nat.add_mul, Nat.mul_right_comm]
    generalize Q1 * Y = p at *
    generalize Q0 * Y = p2 at *
    omega
  rw [key, Nat.mul_comm _ Y, Nat.mul_add_div (by omega), Nat.div_eq_of_lt r2, Nat.add_zero]
/-- two digits make the quotient -/
theorem two_digits (hi lo y1 y0 : Nat) (d : Dig hi (lo / 4294967296) y1 y0) :
    quoN hi lo (y1 * 4294967296 + y0) = digQ hi (lo / 4294967296) y1 y0 * 4294967296 + digQ (digR hi (lo / 4294967296) y1 y0) (lo % 4294967296) y1 y0 := by
  unfold quoN
  have e := dig_eq hi (lo / 4294967296) y1 y0
  have e2 := dig_eq (digR hi (lo / 4294967296) y1 y0) (lo % 4294967296) y1 y0
  have hl : lo = lo / 4294967296 * 4294967296 + lo % 4294967296 := by omega
  have hr : digR (digR hi (lo / 4294967296) y1 y0) (lo % 4294967296) y1 y0 < y1 * 4294967296 + y0 := by
    unfold digR
    exact Nat.mod_lt _ (by have := d.hy1; omega)
  exact two_core hi lo (lo / 4294967296) (lo % 4294967296) (digQ hi (lo / 4294967296) y1 y0) (digR hi (lo / 4294967296) y1 y0) (digQ (digR hi (lo / 4294967296) y1 y0) (lo % 4294967296) y1 y0) (digR (digR hi (lo / 4294967296) y1 y0) (lo % 4294967296) y1 y0) (y1 * 4294967296 + y0) e e2 hl hr
end Go.Proofs.Ybulkdtwm.B
