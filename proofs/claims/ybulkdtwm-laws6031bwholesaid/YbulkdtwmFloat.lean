import Derived.Laws.FloatArith
import Derived.Laws.Cover2
namespace Go.Proofs.Ybulkdtwm.B
open Ieee

theorem d_sign : double.signWeight = 9223372036854775808 := by decide
theorem d_binade : double.binade = 4503599627370496 := by decide
theorem d_inf : double.infRung = 9218868437227405312 := by decide
theorem d_least : double.leastPlace = -1074 := by decide

theorem read_normal (x : Nat) (h1 : 4503599627370496 ≤ x) (h2 : x < 9218868437227405312) :
    double.read x = .number false (4503599627370496 + x % 4503599627370496) (-1074 + ((x / 4503599627370496 - 1 : Nat) : Int)) := by
  unfold Format.read
  rw [d_sign, d_binade, d_inf, d_least]
  have e1 : x / 9223372036854775808 % 2 = 0 := by omega
  have e2 : x % 9223372036854775808 = x := by omega
  simp only [e1, e2]
  rw [if_neg (by omega), if_pos h2]
  rfl
theorem read_zero : double.read 0 = .number false 0 (-1074) := by decide
theorem read_one : double.read 4607182418800017408 = .number false 4503599627370496 (-52) := by
  rw [read_normal _ (by decide) (by decide)]
  decide

/-! ### order -/
theorem order_pos {x y m n : Nat} {i j : Int} (hx : double.read x = .number false m i) (hy : double.read y = .number false n j) :
    double.order x y = some (compare ((m <<< (i - min i j).toNat : Nat) : Int) ((n <<< (j - min i j).toNat : Nat) : Int)) := by
  unfold Format.order
  rw [hx, hy]
  rfl
theorem cmp_gt {a b : Int} (h : b < a) : compare a b = Ordering.gt := by
  show compareOfLessAndEq a b = _
  unfold compareOfLessAndEq
  rw [if_neg (by omega), if_neg (by omega)]
theorem cmp_lt {a b : Int} (h : a < b) : compare a b = Ordering.lt := by
  show compareOfLessAndEq a b = _
  unfold compareOfLessAndEq
  rw [if_pos h]
theorem cmp_eq (a : Int) : compare a a = Ordering.eq := by
  show compareOfLessAndEq a a = _
  unfold compareOfLessAndEq
  rw [if_neg (by omega), if_pos rfl]

/-- a word of a plain size: its number is at least 1 and below 2 ^ 66 -/
structure Plain (x : Nat) : Prop where
  lo : 4607182418800017408 ≤ x
  hi : x < 4904480399154442240
theorem Plain.read {x : Nat} (h : Plain x) : double.read x = .number false (4503599627370496 + x % 4503599627370496) (-1074 + ((x / 4503599627370496 - 1 : Nat) : Int)) := by
  obtain ⟨a, b⟩ := h
  exact read_normal x (by omega) (by omega)
theorem Plain.ne_zero {x : Nat} (h : Plain x) : (FloatKind.f64.format.order x 0 == some .eq) = false := by
  show (double.order x 0 == some .eq) = false
  rw [order_pos h.read read_zero, cmp_gt]
  · rfl
  · rw [Nat.zero_shiftLeft, Nat.shiftLeft_eq]
    have : 0 < 2 ^ (-1074 + ((x / 4503599627370496 - 1 : Nat) : Int) - min (-1074 + ((x / 4503599627370496 - 1 : Nat) : Int)) (-1074)).toNat := Nat.two_pow_pos _
    exact Int.ofNat_lt.2 (Nat.mul_pos (by omega) this)
theorem Plain.not_nan {x : Nat} (h : Plain x) : (FloatKind.f64.format.order x x != some .eq) = false := by
  show (double.order x x != some .eq) = false
  rw [order_pos h.read h.read, cmp_eq]; rfl
theorem read_small : double.read 4503599627370496 = .number false 4503599627370496 (-1074) := by
  rw [read_normal _ (by decide) (by decide)]; decide
theorem Plain.not_small {x : Nat} (h : Plain x) : (FloatKind.f64.format.order x 4503599627370496 == some .lt) = false := by
  show (double.order x 4503599627370496 == some .lt) = false
  have hx := h.lo
  rw [order_pos h.read read_small, cmp_gt]
  · rfl
  · have e1 : min (-1074 + ((x / 4503599627370496 - 1 : Nat) : Int)) (-1074) = -1074 := by omega
    rw [e1, show (-1074 - (-1074) : Int).toNat = 0 from rfl, Nat.shiftLeft_zero, Nat.shiftLeft_eq]
    obtain ⟨k, hk⟩ : ∃ k, (-1074 + ((x / 4503599627370496 - 1 : Nat) : Int) - -1074).toNat = k + 1 := ⟨(-1074 + ((x / 4503599627370496 - 1 : Nat) : Int) - -1074).toNat - 1, by omega⟩
    rw [hk, Nat.pow_succ]
    apply Int.ofNat_lt.2
    have h2 : 0 < 2 ^ k := Nat.two_pow_pos _
    have h3 : (4503599627370496 + x % 4503599627370496) * 2 ≤ (4503599627370496 + x % 4503599627370496) * (2 ^ k * 2) := Nat.mul_le_mul_left _ (by omega)
    omega
theorem read_max : double.read 9218868437227405311 = .number false 9007199254740991 971 := by
  rw [read_normal _ (by decide) (by decide)]; decide
theorem Plain.not_inf {x : Nat} (h : Plain x) : (FloatKind.f64.format.order x 9218868437227405311 == some .gt) = false := by
  show (double.order x 9218868437227405311 == some .gt) = false
  have hx := h.lo
  have hx2 := h.hi
  rw [order_pos h.read read_max, cmp_lt]
  · rfl
  · have e1 : min (-1074 + ((x / 4503599627370496 - 1 : Nat) : Int)) 971 = -1074 + ((x / 4503599627370496 - 1 : Nat) : Int) := by omega
    rw [e1, Int.sub_self, show (0 : Int).toNat = 0 from rfl, Nat.shiftLeft_zero, Nat.shiftLeft_eq]
    obtain ⟨k, hk⟩ : ∃ k, (971 - (-1074 + ((x / 4503599627370496 - 1 : Nat) : Int))).toNat = k + 1 := ⟨(971 - (-1074 + ((x / 4503599627370496 - 1 : Nat) : Int))).toNat - 1, by omega⟩
    rw [hk, Nat.pow_succ]
    apply Int.ofNat_lt.2
    have h2 : 0 < 2 ^ k := Nat.two_pow_pos _
    have h3 : 9007199254740991 * 2 ≤ 9007199254740991 * (2 ^ k * 2) := Nat.mul_le_mul_left _ (by omega)
    omega

/-! ### rounding -/
def upB (mag drop : Nat) : Bool := decide (2 ^ drop < 2 * (mag % 2 ^ drop)) || (2 ^ drop == 2 * (mag % 2 ^ drop) && mag / 2 ^ drop % 2 == 1)
theorem cut_even (mag drop L : Nat) (hL : mag.log2 = L) (hd : drop ≤ L + 2) :
    Toward.even.cut false mag drop = mag / 2 ^ drop + (upB mag drop).toNat := by
  unfold Toward.cut upB
  rw [hL, Nat.min_eq_left hd, Nat.shiftLeft_eq, Nat.one_mul]
theorem nearest_of (mag L : Nat) (place : Int) (h0 : mag ≠ 0) (hL : mag.log2 = L) (h52 : 52 ≤ L) (hp : -1074 ≤ place + L - 52) :
    double.nearest false mag place = min ((place + L - 52 + 1074).toNat * 4503599627370496 + (mag / 2 ^ (L - 52) + (upB mag (L - 52)).toNat)) 9218868437227405312 := by
  unfold Format.nearest
  rw [if_neg h0, d_least, d_binade, d_inf, hL]
  have e1 : max (place + (L : Int) - ((double.fractionBits : Nat) : Int)) (-1074) = place + L - 52 := by
    have : double.fractionBits = 52 := rfl
    rw [this]; omega
  simp only [e1]
  rw [show (place - (place + (L : Int) - 52)).toNat = 0 from by omega, Nat.shiftLeft_zero, show (place + (L : Int) - 52 - place).toNat = L - 52 from by omega]
  rw [cut_even mag (L - 52) L hL (by omega), Int.sub_neg, Format.word, if_neg Bool.false_ne_true]
/-- one times x is x -/
theorem mul_one (x : Nat) (h1 : 4503599627370496 ≤ x) (h2 : x < 9218868437227405312) : floatBits .mul .f64 4607182418800017408 x = some x := by
  show double.mul 4607182418800017408 x = some x
  unfold Format.mul
  rw [read_one, read_normal x h1 h2]
  have hm : x % 4503599627370496 < 4503599627370496 := Nat.mod_lt _ (by omega)
  show some (double.nearest false (4503599627370496 * (4503599627370496 + x % 4503599627370496)) (-52 + (-1074 + ((x / 4503599627370496 - 1 : Nat) : Int)))) = some x
  generalize hr : x % 4503599627370496 = r at *
  have hlog : (4503599627370496 * (4503599627370496 + r)).log2 = 104 := by
    rw [Nat.log2_eq_iff (by omega)]
    constructor
    · show 20282409603651670423947251286016 ≤ _; omega
    · show _ < 40564819207303340847894502572032; omega
  rw [nearest_of _ 104 _ (by omega) hlog (by omega) (by omega)]
  have e1 : 4503599627370496 * (4503599627370496 + r) / 2 ^ (104 - 52) = 4503599627370496 + r := by
    show 4503599627370496 * (4503599627370496 + r) / 4503599627370496 = _; omega
  have e2 : 4503599627370496 * (4503599627370496 + r) % 2 ^ (104 - 52) = 0 := by
    show 4503599627370496 * (4503599627370496 + r) % 4503599627370496 = _; omega
  have e3 : upB (4503599627370496 * (4503599627370496 + r)) (104 - 52) = false := by
    unfold upB; rw [e2]; rfl
  rw [e1, e3]
  refine congrArg some ?_
  show min ((-52 + (-1074 + ((x / 4503599627370496 - 1 : Nat) : Int)) + ((104 : Nat) : Int) - 52 + 1074).toNat * 4503599627370496 + (4503599627370496 + r + 0)) 9218868437227405312 = x
  omega
/-- float64(q) at a whole number of 63 or 64 bits that lies at no midpoint -/
theorem of_int (q d : Nat) (hd : d = 10 ∨ d = 11) (h1 : 2 ^ (d + 52) ≤ q) (h2 : q < 2 ^ (d + 53)) (hne : 2 * (q % 2 ^ d) ≠ 2 ^ d) :
    floatOfInt .f64 (q : Int) = (d + 1074) * 4503599627370496 + (q / 2 ^ d + (decide (2 ^ d < 2 * (q % 2 ^ d))).toNat) := by
  have e0 : (decide ((q : Int) < 0)) = false := decide_eq_false (by omega)
  show double.nearest (decide ((q : Int) < 0)) ((q : Int).natAbs) 0 = _
  rw [e0, Int.natAbs_natCast]
  have hq0 : q ≠ 0 := by have := Nat.two_pow_pos (d + 52); omega
  have hlog : q.log2 = d + 52 := (Nat.log2_eq_iff hq0).2 ⟨h1, h2⟩
  rw [nearest_of q (d + 52) 0 hq0 hlog (by omega) (by omega)]
  have e1 : d + 52 - 52 = d := by omega
  have e2 : upB q d = decide (2 ^ d < 2 * (q % 2 ^ d)) := by
    unfold upB
    rw [show (2 ^ d == 2 * (q % 2 ^ d)) = false from by rw [beq_eq_false_iff_ne]; omega]
    simp
  rw [e1, e2]
  have e3 : q / 2 ^ d < 2 ^ 53 := by
    rw [Nat.div_lt_iff_lt_mul (Nat.two_pow_pos _), ← Nat.pow_add, Nat.add_comm 53 d]; exact h2
  have e4 : (decide (2 ^ d < 2 * (q % 2 ^ d))).toNat ≤ 1 := Bool.toNat_le _
  generalize (decide (2 ^ d < 2 * (q % 2 ^ d))).toNat = u at *
  generalize q / 2 ^ d = m at *
  omega
end Go.Proofs.Ybulkdtwm.B
