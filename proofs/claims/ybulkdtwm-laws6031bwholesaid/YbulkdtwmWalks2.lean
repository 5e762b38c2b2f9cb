import Derived.Test.YbulkdtwmWalks1
import Derived.Test.YbulkdtwmFacts2
import Derived.Test.YbulkdtwmShelf
namespace Go.Proofs.Ybulkdtwm.B
open Go.ChangeShapes Go.WideShapes Go.ChangeAt Go.RowKit

theorem bitLen_top (y : Nat) (h1 : 9223372036854775808 ≤ y) (h2 : y ≤ 18446744073709551615) : Lib.bitLen y = 64 := by
  have h := Lib.bitLen_shift 63 y h1 (by omega)
  have e : y / 2 ^ 63 = 1 := by omega
  rw [h, e]; rfl
theorem lz_top (y : Nat) (w : World) (h1 : 9223372036854775808 ≤ y) (h2 : y ≤ 18446744073709551615) :
    Calls Yba.prog 14 #[.int .u64 y] w fun e w' => e = .returned (.int .i64 0) ∧ w' = w := by
  refine (Yba.bits_LeadingZeros64 y w (by omega) (by omega)).mono ?_
  rintro e w' ⟨rfl, rfl⟩
  exact ⟨ret_int (by rw [Int.toNat_natCast, bitLen_top y h1 h2]; rfl), rfl⟩

theorem un32_eq (hi lo : Nat) (h : hi ≤ 18446744073709551615) (h2 : lo ≤ 18446744073709551615) : bits .or .u64 (hi : Int) ((lo : Int) / 18446744073709551616) = (hi : Int) := by
  rw [show ((lo : Int) / 18446744073709551616) = ((0 : Nat) : Int) from by omega, u64_or_nat _ _ (by omega) (by omega), Nat.or_zero]
theorem u1_eq (lo : Nat) : ((lo : Int) / 4294967296) = ((lo / 4294967296 : Nat) : Int) := by omega
theorem u0_eq (lo : Nat) (h2 : lo ≤ 18446744073709551615) : bits .and .u64 (lo : Int) 4294967295 = ((lo % 4294967296 : Nat) : Int) := by
  rw [show (4294967295 : Int) = ((4294967295 : Nat) : Int) from rfl, u64_and_nat _ _ (by omega) (by omega), nat_mask32]
theorem wrap_le (n : Nat) (h : n ≤ 18446744073709551615) : IntKind.u64.wrap (n : Int) = (n : Int) := by rw [IntKind.wrap_u64]; omega
theorem q_eq (U y1 : Nat) (h : U ≤ 18446744073709551615) : IntKind.u64.wrap ((U : Int).tdiv (y1 : Int)) = ((U / y1 : Nat) : Int) := by
  have h1 : U / y1 ≤ U := Nat.div_le_self _ _
  rw [Int.tdiv_eq_ediv_of_nonneg (by omega), ← Int.natCast_ediv, wrap_le _ (by omega)]
theorem r_eq (U y1 : Nat) (h : U ≤ 18446744073709551615) (_hy : 0 < y1) :
    IntKind.u64.wrap ((U : Int) - IntKind.u64.wrap (((U / y1 : Nat) : Int) * (y1 : Int))) = ((U % y1 : Nat) : Int) := by
  have h1 : U / y1 * y1 + U % y1 = U := by rw [Nat.mul_comm]; exact Nat.div_add_mod U y1
  have h2 : ((U / y1 : Nat) : Int) * (y1 : Int) = ((U / y1 * y1 : Nat) : Int) := by rw [Int.natCast_mul]
  generalize U / y1 * y1 = p at *
  generalize U % y1 = r at *
  rw [h2, wrap_le p (by omega), show ((U : Int) - (p : Int)) = ((r : Nat) : Int) from by omega, wrap_le r (by omega)]
theorem mul_eq (q y0 : Nat) (h : q ≤ 4294967295) (h0 : y0 ≤ 4294967295) : IntKind.u64.wrap ((q : Int) * (y0 : Int)) = ((q * y0 : Nat) : Int) := by
  have : q * y0 ≤ 4294967295 * 4294967295 := Nat.mul_le_mul h h0
  rw [← Int.natCast_mul, wrap_le _ (by omega)]

theorem un21_eq (hi u1 y1 y0 y q : Nat) (d : Dig hi u1 y1 y0) (hy : y = y1 * 4294967296 + y0) (h2 : y ≤ 18446744073709551615) (hq : q = digQ hi u1 y1 y0) :
    IntKind.u64.wrap (IntKind.u64.wrap (IntKind.u64.wrap ((hi : Int) * 4294967296) + (u1 : Int)) - IntKind.u64.wrap ((q : Int) * (y : Int))) = ((digR hi u1 y1 y0 : Nat) : Int) := by
  have e := dig_eq hi u1 y1 y0
  have hr := d.rem
  rw [← hq, ← hy] at e
  rw [← hy] at hr
  rw [← Int.natCast_mul]
  generalize q * y = p at *
  generalize digR hi u1 y1 y0 = R at *
  simp only [IntKind.wrap_u64]
  omega

theorem ret_two {a b r : Int} (h : a = b) : Ending.returned (.tuple #[.int .u64 a, .int .u64 r]) = .returned (.tuple #[.int .u64 b, .int .u64 r]) := by rw [h]
/-- the test as the walk asks it: no -/
def TNo (q r u1 y0 : Nat) : Prop :=
  decide ((4294967296 : Int) ≤ (q : Int)) = false ∧ (q : Int) < 4294967296 ∧
  decide (4294967296 * (r : Int) + (u1 : Int) < IntKind.u64.wrap ((q : Int) * (y0 : Int))) = false ∧ IntKind.u64.wrap ((q : Int) * (y0 : Int)) ≤ 4294967296 * (r : Int) + (u1 : Int) ∧ q < 4294967296
/-- yes, by the digit's size -/
def TBig (q : Nat) : Prop :=
  decide ((4294967296 : Int) ≤ (q : Int)) = true ∧ (4294967296 : Int) ≤ (q : Int)
/-- yes, by the product -/
def TMul (q r u1 y0 : Nat) : Prop :=
  decide ((4294967296 : Int) ≤ (q : Int)) = false ∧ (q : Int) < 4294967296 ∧
  decide (4294967296 * (r : Int) + (u1 : Int) < IntKind.u64.wrap ((q : Int) * (y0 : Int))) = true ∧
  4294967296 * (r : Int) + (u1 : Int) < IntKind.u64.wrap ((q : Int) * (y0 : Int))
def RBrk (r y1 : Nat) : Prop := decide ((4294967296 : Int) ≤ (r : Int) + (y1 : Int)) = true ∧ (4294967296 : Int) ≤ (r : Int) + (y1 : Int)
def RGo (r y1 : Nat) : Prop := decide ((4294967296 : Int) ≤ (r : Int) + (y1 : Int)) = false ∧ (r : Int) + (y1 : Int) < 4294967296

theorem turn {U u1 y1 y0 q r : Nat} (d : Dig U u1 y1 y0) (h : QInv U u1 y1 y0 q r) :
    (TNo q r u1 y0 ∧ Hid (q = digQ U u1 y1 y0)) ∨
    ((TBig q ∨ TMul q r u1 y0) ∧ 1 ≤ (q : Int) ∧ ∃ q' : Nat, Hid ((q : Int) - 1 = (q' : Int)) ∧
      ((RBrk r y1 ∧ Hid (q' = digQ U u1 y1 y0)) ∨ (RGo r y1 ∧ QInv U u1 y1 y0 q' (r + y1)))) := by
  have hy0 := d.hy0
  by_cases hc : 4294967296 ≤ q
  · right
    obtain ⟨q', rfl⟩ : ∃ q', q = q' + 1 := ⟨q - 1, by omega⟩
    refine ⟨Or.inl ⟨decide_eq_true (by omega), by omega⟩, by omega, q', hide (by omega), ?_⟩
    by_cases hb : 4294967296 ≤ r + y1
    · exact Or.inl ⟨⟨decide_eq_true (by omega), by omega⟩, h.brk d (Or.inl hc) hb⟩
    · exact Or.inr ⟨⟨decide_eq_false (by omega), by omega⟩, h.next d (Or.inl hc) (by omega)⟩
  · have hm := mul_eq q y0 (by omega) (by omega)
    by_cases ht : q * y0 ≤ 4294967296 * r + u1
    · left
      refine ⟨⟨decide_eq_false (by omega), by omega, decide_eq_false ?_, ?_, by omega⟩, h.no d ht⟩
      · rw [hm]; omega
      · rw [hm]; omega
    · right
      have h0 : q ≠ 0 := by
        intro h0; subst h0; rw [Nat.zero_mul] at ht; omega
      obtain ⟨q', rfl⟩ : ∃ q', q = q' + 1 := ⟨q - 1, by omega⟩
      refine ⟨Or.inr ⟨decide_eq_false (by omega), by omega, decide_eq_true ?_, ?_⟩, by omega, q', hide (by omega), ?_⟩
      · rw [hm]; omega
      · rw [hm]; omega
      by_cases hb : 4294967296 ≤ r + y1
      · exact Or.inl ⟨⟨decide_eq_true (by omega), by omega⟩, h.brk d (Or.inr (by omega)) hb⟩
      · exact Or.inr ⟨⟨decide_eq_false (by omega), by omega⟩, h.next d (Or.inr (by omega)) (by omega)⟩

def DivPost (hi lo y : Nat) (w : World) (e : Ending) (w' : World) : Prop :=
  ∃ r : Int, e = .returned (.tuple #[.int .u64 (quoN hi lo y), .int .u64 r]) ∧ w' = w

set_option maxRecDepth 100000 in
set_option maxHeartbeats 1000000 in
theorem div64_any (hi lo y : Nat) (w : World) (h1 : hi < y) (h2 : y ≤ 18446744073709551615) (h3 : lo ≤ 18446744073709551615) (h4 : 9223372036854775808 ≤ y) (h5 : 0 < hi) :
    Calls Yba.prog 9 #[.int .u64 hi, .int .u64 lo, .int .u64 y] w fun e w' => DivPost hi lo y w e w' := by
  have hlz := lz_top y w h4 h2
  have hy0 : ((y : Int) == 0) = false := by rw [beq_eq_false_iff_ne]; omega
  have hh0 : ((hi : Int) == 0) = false := by rw [beq_eq_false_iff_ne]; omega
  have hle : ¬ y ≤ hi := by omega
  have hled : decide (y ≤ hi) = false := decide_eq_false hle
  obtain ⟨y0, Ey0⟩ : ∃ y0, y % 4294967296 = y0 := ⟨_, rfl⟩
  obtain ⟨y1, Ey1⟩ : ∃ y1, y / 4294967296 = y1 := ⟨_, rfl⟩
  have e0 : bits .and .u64 (y : Int) 4294967295 = (y0 : Int) := by rw [u0_eq y h2, Ey0]
  have e1 : ((y : Int) / 4294967296) = (y1 : Int) := by omega
  have b0 : y0 < 4294967296 := by omega
  have b1 : y1 < 4294967296 := by omega
  have b1' : 2147483648 ≤ y1 := by omega
  have HY := hide (show y = y1 * 4294967296 + y0 by omega)
  clear Ey0 Ey1
  obtain ⟨u1, Eu1⟩ : ∃ u1, lo / 4294967296 = u1 := ⟨_, rfl⟩
  obtain ⟨u0, Eu0⟩ : ∃ u0, lo % 4294967296 = u0 := ⟨_, rfl⟩
  have f1 : ((lo : Int) / 4294967296) = (u1 : Int) := by omega
  have f0 : bits .and .u64 (lo : Int) 4294967295 = (u0 : Int) := by rw [u0_eq lo h3, Eu0]
  have bu1 : u1 < 4294967296 := by omega
  have bu0 : u0 < 4294967296 := by omega
  have EU1 := hide Eu1
  have EU0 := hide Eu0
  clear Eu1 Eu0
  have D1 : Dig hi u1 y1 y0 := ⟨bu1, b1', b1, b0, by have := unhide HY; omega⟩
  go_enter Yba.func9, Yba.ntmps9
  go_wp2_with (go_at_call 14; refine hlz.mono ?_; rintro e w' ⟨rfl, rfl⟩)
  rw [un32_eq hi lo (by omega) h3, q_eq hi y1 (by omega), r_eq hi y1 (by omega) (by omega)]
  clear hlz hy0 hh0 e0 e1 f1 f0 hled hle
  go_loop [15, 16] (fun q r => ∃ qq rr : Nat, QInv hi u1 y1 y0 qq rr ∧ q = .int .u64 qq ∧ r = .int .u64 rr) (fun q _ => (intOf q).toNat)
  case atStart => exact ⟨_, _, D1.start, rfl, rfl⟩
  case round =>
    obtain ⟨q, r, hinv, rfl, rfl⟩ := hrel
    have hr := hinv.hr
    have hq := hinv.hq
    have T := turn D1 hinv
    clear hinv
    rcases T with ⟨⟨hcd, hci, htd, ht', hqi⟩, HQ⟩ | ⟨T, hq1, q', HP, ⟨⟨hbd, hb⟩, HQ⟩ | ⟨⟨hbd, hb⟩, hnew⟩⟩
    rotate_left 2
    · rcases T with ⟨hcd, hc⟩ | ⟨hcd, hci, htd, ht⟩
      all_goals
        go_wp2
        go_round
        case rel => exact ⟨q', r + y1, hnew, val_int HP.out, by go_num⟩
        case measure => simp [intOf]; omega
    · go_wp2
      rw [un21_eq hi u1 y1 y0 y q D1 (unhide HY) h2 (unhide HQ)]
      clear hcd hci htd ht' hqi
      obtain ⟨R, HR⟩ : ∃ R, Hid (digR hi u1 y1 y0 = R) := ⟨_, hide rfl⟩
      rw [unhide HR]
      have hRlt : R < y1 * 4294967296 + y0 := by rw [← unhide HR]; exact D1.rem
      have hRb : R ≤ 18446744073709551615 := by have := unhide HY; omega
      have hQlt : (q : Int) < 4294967296 := by have := D1.lt; rw [← unhide HQ] at this; omega
      have D2 : Dig R u0 y1 y0 := ⟨bu0, b1', b1, b0, hRlt⟩
      rw [q_eq R y1 hRb, r_eq R y1 hRb (by omega)]
      go_loop [18, 16] (fun q r => ∃ qq rr : Nat, QInv R u0 y1 y0 qq rr ∧ q = .int .u64 qq ∧ r = .int .u64 rr) (fun q _ => (intOf q).toNat)
      case atStart => exact ⟨_, _, D2.start, rfl, rfl⟩
      case round =>
        obtain ⟨p, s, hinv, rfl, rfl⟩ := hrel
        have hs := hinv.hr
        have hp := hinv.hq
        have T2 := turn D2 hinv
        clear hinv
        rcases T2 with ⟨⟨gcd, gci, gtd, gt', gqi⟩, HQ0⟩ | ⟨T2, gq1, p', GP, ⟨⟨gbd, gb⟩, HQ0⟩ | ⟨⟨gbd, gb⟩, gnew⟩⟩
        rotate_left 2
        · rcases T2 with ⟨gcd, gc⟩ | ⟨gcd, gci, gtd, gt⟩
          all_goals
            go_wp2
            go_round
            case rel => exact ⟨p', s + y1, gnew, val_int (unhide GP), by go_num⟩
            case measure => simp [intOf]; omega
        · go_wp2
          have HF : Hid (quoN hi lo y = q * 4294967296 + p) := by
            unfold Hid
            have e := two_digits hi lo y1 y0 (by rw [unhide EU1]; exact D1)
            rw [unhide EU1, unhide EU0, unhide HR, ← unhide HQ, ← unhide HQ0, ← unhide HY] at e
            exact e
          go_ret2
          exact ⟨_, ret_two (by rw [unhide HF]; first | omega | (rw [IntKind.wrap_u64]; omega)), rfl⟩
        · rcases T2 with ⟨gcd, gc⟩ | ⟨gcd, gci, gtd, gt⟩
          all_goals
            have hp'lt : (p' : Int) < 4294967296 := by have := D2.lt; rw [← unhide HQ0] at this; omega
            go_wp2
            rw [unhide GP]
            have HF : Hid (quoN hi lo y = q * 4294967296 + p') := by
              unfold Hid
              have e := two_digits hi lo y1 y0 (by rw [unhide EU1]; exact D1)
              rw [unhide EU1, unhide EU0, unhide HR, ← unhide HQ, ← unhide HQ0, ← unhide HY] at e
              exact e
            go_ret2
            exact ⟨_, ret_two (by rw [unhide HF]; first | omega | (rw [IntKind.wrap_u64]; omega)), rfl⟩
    · rcases T with ⟨hcd, hc⟩ | ⟨hcd, hci, htd, ht⟩
      · go_wp2
        rw [unhide HP, un21_eq hi u1 y1 y0 y q' D1 (unhide HY) h2 (unhide HQ)]
        clear hcd hc
        obtain ⟨R, HR⟩ : ∃ R, Hid (digR hi u1 y1 y0 = R) := ⟨_, hide rfl⟩
        rw [unhide HR]
        have hRlt : R < y1 * 4294967296 + y0 := by rw [← unhide HR]; exact D1.rem
        have hRb : R ≤ 18446744073709551615 := by have := unhide HY; omega
        have hQlt : (q' : Int) < 4294967296 := by have := D1.lt; rw [← unhide HQ] at this; omega
        have D2 : Dig R u0 y1 y0 := ⟨bu0, b1', b1, b0, hRlt⟩
        rw [q_eq R y1 hRb, r_eq R y1 hRb (by omega)]
        go_loop [18, 16] (fun q r => ∃ qq rr : Nat, QInv R u0 y1 y0 qq rr ∧ q = .int .u64 qq ∧ r = .int .u64 rr) (fun q _ => (intOf q).toNat)
        case atStart => exact ⟨_, _, D2.start, rfl, rfl⟩
        case round =>
          obtain ⟨p, s, hinv, rfl, rfl⟩ := hrel
          have hs := hinv.hr
          have hp := hinv.hq
          have T2 := turn D2 hinv
          clear hinv
          rcases T2 with ⟨⟨gcd, gci, gtd, gt', gqi⟩, HQ0⟩ | ⟨T2, gq1, p', GP, ⟨⟨gbd, gb⟩, HQ0⟩ | ⟨⟨gbd, gb⟩, gnew⟩⟩
          rotate_left 2
          · rcases T2 with ⟨gcd, gc⟩ | ⟨gcd, gci, gtd, gt⟩
            all_goals
              go_wp2
              go_round
              case rel => exact ⟨p', s + y1, gnew, val_int (unhide GP), by go_num⟩
              case measure => simp [intOf]; omega
          · go_wp2
            have HF : Hid (quoN hi lo y = q' * 4294967296 + p) := by
              unfold Hid
              have e := two_digits hi lo y1 y0 (by rw [unhide EU1]; exact D1)
              rw [unhide EU1, unhide EU0, unhide HR, ← unhide HQ, ← unhide HQ0, ← unhide HY] at e
              exact e
            go_ret2
            exact ⟨_, ret_two (by rw [unhide HF]; first | omega | (rw [IntKind.wrap_u64]; omega)), rfl⟩
          · rcases T2 with ⟨gcd, gc⟩ | ⟨gcd, gci, gtd, gt⟩
            all_goals
              have hp'lt : (p' : Int) < 4294967296 := by have := D2.lt; rw [← unhide HQ0] at this; omega
              go_wp2
              rw [unhide GP]
              have HF : Hid (quoN hi lo y = q' * 4294967296 + p') := by
                unfold Hid
                have e := two_digits hi lo y1 y0 (by rw [unhide EU1]; exact D1)
                rw [unhide EU1, unhide EU0, unhide HR, ← unhide HQ, ← unhide HQ0, ← unhide HY] at e
                exact e
              go_ret2
              exact ⟨_, ret_two (by rw [unhide HF]; first | omega | (rw [IntKind.wrap_u64]; omega)), rfl⟩
      · go_wp2
        rw [unhide HP, un21_eq hi u1 y1 y0 y q' D1 (unhide HY) h2 (unhide HQ)]
        clear hcd hci htd ht
        obtain ⟨R, HR⟩ : ∃ R, Hid (digR hi u1 y1 y0 = R) := ⟨_, hide rfl⟩
        rw [unhide HR]
        have hRlt : R < y1 * 4294967296 + y0 := by rw [← unhide HR]; exact D1.rem
        have hRb : R ≤ 18446744073709551615 := by have := unhide HY; omega
        have hQlt : (q' : Int) < 4294967296 := by have := D1.lt; rw [← unhide HQ] at this; omega
        have D2 : Dig R u0 y1 y0 := ⟨bu0, b1', b1, b0, hRlt⟩
        rw [q_eq R y1 hRb, r_eq R y1 hRb (by omega)]
        go_loop [18, 16] (fun q r => ∃ qq rr : Nat, QInv R u0 y1 y0 qq rr ∧ q = .int .u64 qq ∧ r = .int .u64 rr) (fun q _ => (intOf q).toNat)
        case atStart => exact ⟨_, _, D2.start, rfl, rfl⟩
        case round =>
          obtain ⟨p, s, hinv, rfl, rfl⟩ := hrel
          have hs := hinv.hr
          have hp := hinv.hq
          have T2 := turn D2 hinv
          clear hinv
          rcases T2 with ⟨⟨gcd, gci, gtd, gt', gqi⟩, HQ0⟩ | ⟨T2, gq1, p', GP, ⟨⟨gbd, gb⟩, HQ0⟩ | ⟨⟨gbd, gb⟩, gnew⟩⟩
          rotate_left 2
          · rcases T2 with ⟨gcd, gc⟩ | ⟨gcd, gci, gtd, gt⟩
            all_goals
              go_wp2
              go_round
              case rel => exact ⟨p', s + y1, gnew, val_int (unhide GP), by go_num⟩
              case measure => simp [intOf]; omega
          · go_wp2
            have HF : Hid (quoN hi lo y = q' * 4294967296 + p) := by
              unfold Hid
              have e := two_digits hi lo y1 y0 (by rw [unhide EU1]; exact D1)
              rw [unhide EU1, unhide EU0, unhide HR, ← unhide HQ, ← unhide HQ0, ← unhide HY] at e
              exact e
            go_ret2
            exact ⟨_, ret_two (by rw [unhide HF]; first | omega | (rw [IntKind.wrap_u64]; omega)), rfl⟩
          · rcases T2 with ⟨gcd, gc⟩ | ⟨gcd, gci, gtd, gt⟩
            all_goals
              have hp'lt : (p' : Int) < 4294967296 := by have := D2.lt; rw [← unhide HQ0] at this; omega
              go_wp2
              rw [unhide GP]
              have HF : Hid (quoN hi lo y = q' * 4294967296 + p') := by
                unfold Hid
                have e := two_digits hi lo y1 y0 (by rw [unhide EU1]; exact D1)
                rw [unhide EU1, unhide EU0, unhide HR, ← unhide HQ, ← unhide HQ0, ← unhide HY] at e
                exact e
              go_ret2
              exact ⟨_, ret_two (by rw [unhide HF]; first | omega | (rw [IntKind.wrap_u64]; omega)), rfl⟩
end Go.Proofs.Ybulkdtwm.B
