import Derived.Test.YbulkdtvyDoorMem
import Derived.Test.YbulkdtvyDoorRows
namespace Go.Proofs.YbulkdtvyDoor.M
open Go.RowKit

/-- the texts as the row lists them -/
def txl (k : Nat) : List UInt8 := match (Rows.laid_example_com_parcelwright_parcelwright_pkg_check_oddityText : DataW Unit) with
  | .agg l => match l[k]? with
    | some (.lit (.string s)) => s
    | _ => []
  | _ => []
def txt (k : Nat) : ByteArray := ⟨(txl k).toArray⟩

theorem str_eq {a b : ByteArray} (h : a = b) (k : Int) : Ending.returned (.tuple #[.int .i64 k, .string a]) = .returned (.tuple #[.int .i64 k, .string b]) := by rw [h]

set_option maxRecDepth 100000 in
set_option maxHeartbeats 1000000 in
theorem kind_0 (w : World) : Calls Ybad.prog 4 #[.int .i64 0] w fun e w' => e = .returned (.tuple #[.int .i64 1, .string (txt 1)]) ∧ w' = w := by
  go_enter Ybad.func4, Ybad.ntmps4
  go_wp2
  go_ret2
  exact ⟨str_eq (by kernel_rfl) 1, rfl⟩
set_option maxRecDepth 100000 in
set_option maxHeartbeats 1000000 in
theorem kind_1 (w : World) : Calls Ybad.prog 4 #[.int .i64 1] w fun e w' => e = .returned (.tuple #[.int .i64 2, .string (txt 2)]) ∧ w' = w := by
  go_enter Ybad.func4, Ybad.ntmps4
  go_wp2
  go_ret2
  exact ⟨str_eq (by kernel_rfl) 2, rfl⟩
set_option maxRecDepth 100000 in
set_option maxHeartbeats 1000000 in
theorem kind_2 (w : World) : Calls Ybad.prog 4 #[.int .i64 2] w fun e w' => e = .returned (.tuple #[.int .i64 3, .string (txt 3)]) ∧ w' = w := by
  go_enter Ybad.func4, Ybad.ntmps4
  go_wp2
  go_ret2
  exact ⟨str_eq (by kernel_rfl) 3, rfl⟩
set_option maxRecDepth 100000 in
set_option maxHeartbeats 1000000 in
theorem kind_3 (w : World) : Calls Ybad.prog 4 #[.int .i64 3] w fun e w' => e = .returned (.tuple #[.int .i64 4, .string (txt 4)]) ∧ w' = w := by
  go_enter Ybad.func4, Ybad.ntmps4
  go_wp2
  go_ret2
  exact ⟨str_eq (by kernel_rfl) 4, rfl⟩
set_option maxRecDepth 100000 in
set_option maxHeartbeats 1000000 in
theorem kind_4 (w : World) : Calls Ybad.prog 4 #[.int .i64 4] w fun e w' => e = .returned (.tuple #[.int .i64 5, .string (txt 5)]) ∧ w' = w := by
  go_enter Ybad.func4, Ybad.ntmps4
  go_wp2
  go_ret2
  exact ⟨str_eq (by kernel_rfl) 5, rfl⟩
set_option maxRecDepth 100000 in
set_option maxHeartbeats 1000000 in
theorem kind_5 (w : World) : Calls Ybad.prog 4 #[.int .i64 5] w fun e w' => e = .returned (.tuple #[.int .i64 6, .string (txt 6)]) ∧ w' = w := by
  go_enter Ybad.func4, Ybad.ntmps4
  go_wp2
  go_ret2
  exact ⟨str_eq (by kernel_rfl) 6, rfl⟩
theorem kind_any (i : Nat) (hi : i < 6) (w : World) : Calls Ybad.prog 4 #[.int .i64 i] w fun e w' => e = .returned (.tuple #[.int .i64 ((i + 1 : Nat) : Int), .string (txt (i + 1))]) ∧ w' = w := by
  match i, hi with
  | 0, _ => exact kind_0 w
  | 1, _ => exact kind_1 w
  | 2, _ => exact kind_2 w
  | 3, _ => exact kind_3 w
  | 4, _ => exact kind_4 w
  | 5, _ => exact kind_5 w
end Go.Proofs.YbulkdtvyDoor.M
