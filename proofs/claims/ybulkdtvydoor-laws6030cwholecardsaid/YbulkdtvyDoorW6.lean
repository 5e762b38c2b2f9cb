import Derived.Test.YbulkdtvyDoorW4
import Derived.ChangeKeysEq
namespace Go.Proofs.YbulkdtvyDoor.M
open Go.RowKit Go.Shelf

theorem eq41 (w : World) (d : Nat) (a b : Int) : (Op.equalIn (d + 2) 41 (.agg #[.int .i64 a, .int .i64 b]) (.agg #[.int .i64 a, .int .i64 b])).run Ybad.prog w = .ok true w := by
  have u3 := Ybad.underlying3
  have a3 := Ybad.isAgg3
  have z3 := Ybad.sizeOf3
  have hS : Ybad.prog.underlying 41 = some (.struct (Ybad.prog.fieldsOf 41)) := by kernel_rfl
  have hp : Ybad.prog.stoodInHeld 41 = false := by kernel_rfl
  rw [run_equalIn_agg w (d + 1) 41 _ _ hS hp]
  simp only [Program.fieldsOf, Ybad.underlying41]
  go_simp

theorem neq41 (w : World) (a b : Int) : (binOp .neq 41 (.agg #[.int .i64 a, .int .i64 b]) (.agg #[.int .i64 a, .int .i64 b])).run Ybad.prog w = .ok (.bool false) w := by
  rw [run_neq_struct, show (10000 : Nat) = 9998 + 2 from rfl, eq41]
  rfl

theorem neq42 (w : World) (q : Nat → Int) : (binOp .neq 42 (.agg #[.int .i64 (q 0), .int .i64 (q 1), .int .i64 (q 2), .int .i64 (q 3), .int .i64 (q 4), .int .i64 (q 5), .int .i64 (q 6), .int .i64 (q 7), .int .i64 (q 8), .int .i64 (q 9), .int .i64 (q 10), .int .i64 (q 11), .int .i64 (q 12), .int .i64 (q 13)])
    (.agg #[.int .i64 (q 0), .int .i64 (q 1), .int .i64 (q 2), .int .i64 (q 3), .int .i64 (q 4), .int .i64 (q 5), .int .i64 (q 6), .int .i64 (q 7), .int .i64 (q 8), .int .i64 (q 9), .int .i64 (q 10), .int .i64 (q 11), .int .i64 (q 12), .int .i64 (q 13)])).run Ybad.prog w = .ok (.bool false) w := by
  have hi : Ybad.prog.info? 41 = some Ybad.t41 := by kernel_rfl
  rw [run_neq_struct, show (10000 : Nat) = 9999 + 1 from rfl, run_equalIn_array w 9999 _ _ Ybad.underlying42 hi]
  have h41 := fun w a b => eq41 w 9997 a b
  have a41 := Ybad.isAgg41
  have z41 := Ybad.sizeOf41
  have hc : Ybad.prog.cellsOf 41 = 2 := by kernel_rfl
  rw [hc]
  have e7 : List.range 7 = [0, 1, 2, 3, 4, 5, 6] := rfl
  rw [e7]
  have h41' : ∀ (w : World) (a b : Int), (Op.equalIn 9999 41 (.agg #[.int .i64 a, .int .i64 b]) (.agg #[.int .i64 a, .int .i64 b])).run Ybad.prog w = .ok true w := h41
  clear h41
  simp only [Op.eqItems]
  go_simp
end Go.Proofs.YbulkdtvyDoor.M
