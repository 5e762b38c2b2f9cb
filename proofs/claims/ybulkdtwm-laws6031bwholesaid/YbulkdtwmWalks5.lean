import Derived.Test.YbulkdtwmWalks4
namespace Go.Proofs.Ybulkdtwm.B
open Go.ChangeShapes Go.WideShapes Go.ChangeAt Go.RowKit
set_option linter.unusedVariables false

set_option maxRecDepth 100000 in
set_option maxHeartbeats 2000000 in
theorem law10_no (a0 a2 a3 a4 : Int) (HI LO TOP q : Nat) (e : Int) (off cut : Nat) (w : World)
    (hhi : bits .or .u64 (bits .andNot .u64 a0 9223372036854775808) 4611686018427387904 = (HI : Int)) (htop : bits .or .u64 a2 9223372036854775808 = (TOP : Int))
    (hexp : a3.tmod 4096 = e) (hoff : a4 % 256 = (off : Int)) (hoff0 : 0 ≤ a4) (hoff256 : off < 256) (he1 : -4096 < e) (he2 : e < 4096)
    (hq1 : 4611686018427387904 ≤ q) (hq2 : q < 9223372036854775808) (hcutq : q % 1024 = cut)
    (hdiv : Calls Yba.prog 4 #[.int .u64 HI, .int .u64 LO, .int .u64 TOP] w fun e w' => e = .returned (.int .u64 q) ∧ w' = w)
    (hlen : Calls Yba.prog 5 #[.int .u64 q] w fun e w' => e = .returned (.int .i64 63) ∧ w' = w)
    (hno : (512 ≤ cut + off ∧ cut ≤ 512 + off) ∨ e + 10 + 52 < -1022 ∨ 1024 ≤ e + 10 + 53)
    (hnear : Calls Yba.prog 6 #[.int .u64 HI, .int .u64 LO, .int .u64 TOP, .int .i64 e, .int .u64 off] w fun r w' => r = .returned (.tuple #[.float .f64 0, .bool false]) ∧ w' = w) :
    Calls Yba.prog 3 #[.int .u64 a0, .int .u64 LO, .int .u64 a2, .int .i64 a3, .int .u64 a4] w fun r w' => r = .returned (.bool true) ∧ w' = w := by
  have hg := tobits
  have HC := hide hcutq
  clear hcutq
  have HN := hide hno
  clear hno
  go_enter Yba.func3, Yba.ntmps3
  go_wp2_with (first | (go_at_call 4; refine hdiv.mono ?_; rintro e w' ⟨rfl, rfl⟩) | (go_at_call 5; refine hlen.mono ?_; rintro e w' ⟨rfl, rfl⟩) | (go_at_call 6; refine hnear.mono ?_; rintro e w' ⟨rfl, rfl⟩))
  all_goals first | (go_ret; exact ⟨rfl, rfl⟩) | (exfalso; have := unhide HN; have := unhide HC; omega)

set_option maxRecDepth 100000 in
set_option maxHeartbeats 2000000 in
theorem law10_yes (a0 a2 a3 a4 : Int) (HI LO TOP q : Nat) (e : Int) (off cut : Nat) (w : World)
    (hhi : bits .or .u64 (bits .andNot .u64 a0 9223372036854775808) 4611686018427387904 = (HI : Int)) (htop : bits .or .u64 a2 9223372036854775808 = (TOP : Int))
    (hexp : a3.tmod 4096 = e) (hoff : a4 % 256 = (off : Int)) (hoff0 : 0 ≤ a4) (hoff256 : off < 256) (he1 : -4096 < e) (he2 : e < 4096)
    (hq1 : 4611686018427387904 ≤ q) (hq2 : q < 9223372036854775808) (hcutq : q % 1024 = cut)
    (hdiv : Calls Yba.prog 4 #[.int .u64 HI, .int .u64 LO, .int .u64 TOP] w fun e w' => e = .returned (.int .u64 q) ∧ w' = w)
    (hlen : Calls Yba.prog 5 #[.int .u64 q] w fun e w' => e = .returned (.int .i64 63) ∧ w' = w)
    (hno : ¬ (512 ≤ cut + off ∧ cut ≤ 512 + off)) (h1 : -1022 ≤ e + 10 + 52) (h2 : e + 10 + 53 < 1024) (F x : Nat)
    (hnear : Calls Yba.prog 6 #[.int .u64 HI, .int .u64 LO, .int .u64 TOP, .int .i64 e, .int .u64 off] w fun r w' => r = .returned (.tuple #[.float .f64 F, .bool true]) ∧ w' = w)
    (hfi : floatOfInt .f64 (q : Int) = x)
    (hld : Calls Yba.prog 8 #[.float .f64 x, .int .i64 e] w fun r w' => r = .returned (.float .f64 F) ∧ w' = w) :
    Calls Yba.prog 3 #[.int .u64 a0, .int .u64 LO, .int .u64 a2, .int .i64 a3, .int .u64 a4] w fun r w' => r = .returned (.bool true) ∧ w' = w := by
  have hg := tobits
  have HC := hide hcutq
  clear hcutq
  have HN := hide hno
  clear hno
  go_enter Yba.func3, Yba.ntmps3
  go_wp2_with (first | (go_at_call 4; refine hdiv.mono ?_; rintro e w' ⟨rfl, rfl⟩) | (go_at_call 5; refine hlen.mono ?_; rintro e w' ⟨rfl, rfl⟩) | (go_at_call 6; refine hnear.mono ?_; rintro e w' ⟨rfl, rfl⟩) | (go_at_call 8; refine hld.mono ?_; rintro e w' ⟨rfl, rfl⟩))
  all_goals first | (go_ret; exact ⟨rfl, rfl⟩) | (exfalso; have := unhide HN; have := unhide HC; omega)

set_option maxRecDepth 100000 in
set_option maxHeartbeats 2000000 in
theorem law11_no (a0 a2 a3 a4 : Int) (HI LO TOP q : Nat) (e : Int) (off cut : Nat) (w : World)
    (hhi : bits .or .u64 (bits .andNot .u64 a0 9223372036854775808) 4611686018427387904 = (HI : Int)) (htop : bits .or .u64 a2 9223372036854775808 = (TOP : Int))
    (hexp : a3.tmod 4096 = e) (hoff : a4 % 256 = (off : Int)) (hoff0 : 0 ≤ a4) (hoff256 : off < 256) (he1 : -4096 < e) (he2 : e < 4096)
    (hq1 : 9223372036854775808 ≤ q) (hq2 : q < 18446744073709551616) (hcutq : q % 2048 = cut)
    (hdiv : Calls Yba.prog 4 #[.int .u64 HI, .int .u64 LO, .int .u64 TOP] w fun e w' => e = .returned (.int .u64 q) ∧ w' = w)
    (hlen : Calls Yba.prog 5 #[.int .u64 q] w fun e w' => e = .returned (.int .i64 64) ∧ w' = w)
    (hno : (1024 ≤ cut + off ∧ cut ≤ 1024 + off) ∨ e + 11 + 52 < -1022 ∨ 1024 ≤ e + 11 + 53)
    (hnear : Calls Yba.prog 6 #[.int .u64 HI, .int .u64 LO, .int .u64 TOP, .int .i64 e, .int .u64 off] w fun r w' => r = .returned (.tuple #[.float .f64 0, .bool false]) ∧ w' = w) :
    Calls Yba.prog 3 #[.int .u64 a0, .int .u64 LO, .int .u64 a2, .int .i64 a3, .int .u64 a4] w fun r w' => r = .returned (.bool true) ∧ w' = w := by
  have hg := tobits
  have HC := hide hcutq
  clear hcutq
  have HN := hide hno
  clear hno
  go_enter Yba.func3, Yba.ntmps3
  go_wp2_with (first | (go_at_call 4; refine hdiv.mono ?_; rintro e w' ⟨rfl, rfl⟩) | (go_at_call 5; refine hlen.mono ?_; rintro e w' ⟨rfl, rfl⟩) | (go_at_call 6; refine hnear.mono ?_; rintro e w' ⟨rfl, rfl⟩))
  all_goals first | (go_ret; exact ⟨rfl, rfl⟩) | (exfalso; have := unhide HN; have := unhide HC; omega)

set_option maxRecDepth 100000 in
set_option maxHeartbeats 2000000 in
theorem law11_yes (a0 a2 a3 a4 : Int) (HI LO TOP q : Nat) (e : Int) (off cut : Nat) (w : World)
    (hhi : bits .or .u64 (bits .andNot .u64 a0 9223372036854775808) 4611686018427387904 = (HI : Int)) (htop : bits .or .u64 a2 9223372036854775808 = (TOP : Int))
    (hexp : a3.tmod 4096 = e) (hoff : a4 % 256 = (off : Int)) (hoff0 : 0 ≤ a4) (hoff256 : off < 256) (he1 : -4096 < e) (he2 : e < 4096)
    (hq1 : 9223372036854775808 ≤ q) (hq2 : q < 18446744073709551616) (hcutq : q % 2048 = cut)
    (hdiv : Calls Yba.prog 4 #[.int .u64 HI, .int .u64 LO, .int .u64 TOP] w fun e w' => e = .returned (.int .u64 q) ∧ w' = w)
    (hlen : Calls Yba.prog 5 #[.int .u64 q] w fun e w' => e = .returned (.int .i64 64) ∧ w' = w)
    (hno : ¬ (1024 ≤ cut + off ∧ cut ≤ 1024 + off)) (h1 : -1022 ≤ e + 11 + 52) (h2 : e + 11 + 53 < 1024) (F x : Nat)
    (hnear : Calls Yba.prog 6 #[.int .u64 HI, .int .u64 LO, .int .u64 TOP, .int .i64 e, .int .u64 off] w fun r w' => r = .returned (.tuple #[.float .f64 F, .bool true]) ∧ w' = w)
    (hfi : floatOfInt .f64 (q : Int) = x)
    (hld : Calls Yba.prog 8 #[.float .f64 x, .int .i64 e] w fun r w' => r = .returned (.float .f64 F) ∧ w' = w) :
    Calls Yba.prog 3 #[.int .u64 a0, .int .u64 LO, .int .u64 a2, .int .i64 a3, .int .u64 a4] w fun r w' => r = .returned (.bool true) ∧ w' = w := by
  have hg := tobits
  have HC := hide hcutq
  clear hcutq
  have HN := hide hno
  clear hno
  go_enter Yba.func3, Yba.ntmps3
  go_wp2_with (first | (go_at_call 4; refine hdiv.mono ?_; rintro e w' ⟨rfl, rfl⟩) | (go_at_call 5; refine hlen.mono ?_; rintro e w' ⟨rfl, rfl⟩) | (go_at_call 6; refine hnear.mono ?_; rintro e w' ⟨rfl, rfl⟩) | (go_at_call 8; refine hld.mono ?_; rintro e w' ⟨rfl, rfl⟩))
  all_goals first | (go_ret; exact ⟨rfl, rfl⟩) | (exfalso; have := unhide HN; have := unhide HC; omega)
end Go.Proofs.Ybulkdtwm.B
