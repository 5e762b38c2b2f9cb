import Derived.Test.YbulkdtuwCH3
import Derived.Test.YbulkdtuwCP1
import Derived.Laws.Tables
namespace Go.Proofs.YbulkdtuwC
open Go.RowKit Go.Proofs.YbulkdtuwB RawMap

theorem z79s : Yba.zeroCells79.size = 3202 := by kernel_rfl
theorem z79_31 : Yba.zeroCells79[31]? = some (.map none) := by kernel_rfl
theorem z79_0 : Yba.zeroCells79[0]? = some (.int .u8 0) := by kernel_rfl
theorem z79_7 : Yba.zeroCells79[7]? = some (.map none) := by kernel_rfl
theorem z79_p0 : Yba.zeroCells79[32 + 132 * 0]? = some (.map none) := by kernel_rfl
theorem z79_p1 : Yba.zeroCells79[32 + 132 * 1]? = some (.map none) := by kernel_rfl
theorem z79_p2 : Yba.zeroCells79[32 + 132 * 2]? = some (.map none) := by kernel_rfl
theorem z79_p3 : Yba.zeroCells79[32 + 132 * 3]? = some (.map none) := by kernel_rfl
theorem z79_p4 : Yba.zeroCells79[32 + 132 * 4]? = some (.map none) := by kernel_rfl
theorem z79_p5 : Yba.zeroCells79[32 + 132 * 5]? = some (.map none) := by kernel_rfl
theorem z79_p6 : Yba.zeroCells79[32 + 132 * 6]? = some (.map none) := by kernel_rfl
theorem z79_p7 : Yba.zeroCells79[32 + 132 * 7]? = some (.map none) := by kernel_rfl
theorem z79_p8 : Yba.zeroCells79[32 + 132 * 8]? = some (.map none) := by kernel_rfl
theorem z79_p9 : Yba.zeroCells79[32 + 132 * 9]? = some (.map none) := by kernel_rfl
theorem z79_p10 : Yba.zeroCells79[32 + 132 * 10]? = some (.map none) := by kernel_rfl
theorem z79_p11 : Yba.zeroCells79[32 + 132 * 11]? = some (.map none) := by kernel_rfl
theorem z79_p12 : Yba.zeroCells79[32 + 132 * 12]? = some (.map none) := by kernel_rfl
theorem z79_p13 : Yba.zeroCells79[32 + 132 * 13]? = some (.map none) := by kernel_rfl
theorem z79_p14 : Yba.zeroCells79[32 + 132 * 14]? = some (.map none) := by kernel_rfl
theorem z79_p15 : Yba.zeroCells79[32 + 132 * 15]? = some (.map none) := by kernel_rfl
theorem z79_p : ∀ p, p < 16 → Yba.zeroCells79[32 + 132 * p]? = some (.map none)
  | 0, _ => z79_p0
  | 1, _ => z79_p1
  | 2, _ => z79_p2
  | 3, _ => z79_p3
  | 4, _ => z79_p4
  | 5, _ => z79_p5
  | 6, _ => z79_p6
  | 7, _ => z79_p7
  | 8, _ => z79_p8
  | 9, _ => z79_p9
  | 10, _ => z79_p10
  | 11, _ => z79_p11
  | 12, _ => z79_p12
  | 13, _ => z79_p13
  | 14, _ => z79_p14
  | 15, _ => z79_p15
  | p + 16, h => by omega
theorem z79_t0 : Yba.zeroCells79[2144 + 66 * 0]? = some (.map none) := by kernel_rfl
theorem z79_t1 : Yba.zeroCells79[2144 + 66 * 1]? = some (.map none) := by kernel_rfl
theorem z79_t2 : Yba.zeroCells79[2144 + 66 * 2]? = some (.map none) := by kernel_rfl
theorem z79_t3 : Yba.zeroCells79[2144 + 66 * 3]? = some (.map none) := by kernel_rfl
theorem z79_t4 : Yba.zeroCells79[2144 + 66 * 4]? = some (.map none) := by kernel_rfl
theorem z79_t5 : Yba.zeroCells79[2144 + 66 * 5]? = some (.map none) := by kernel_rfl
theorem z79_t6 : Yba.zeroCells79[2144 + 66 * 6]? = some (.map none) := by kernel_rfl
theorem z79_t7 : Yba.zeroCells79[2144 + 66 * 7]? = some (.map none) := by kernel_rfl
theorem z79_t8 : Yba.zeroCells79[2144 + 66 * 8]? = some (.map none) := by kernel_rfl
theorem z79_t9 : Yba.zeroCells79[2144 + 66 * 9]? = some (.map none) := by kernel_rfl
theorem z79_t10 : Yba.zeroCells79[2144 + 66 * 10]? = some (.map none) := by kernel_rfl
theorem z79_t11 : Yba.zeroCells79[2144 + 66 * 11]? = some (.map none) := by kernel_rfl
theorem z79_t12 : Yba.zeroCells79[2144 + 66 * 12]? = some (.map none) := by kernel_rfl
theorem z79_t13 : Yba.zeroCells79[2144 + 66 * 13]? = some (.map none) := by kernel_rfl
theorem z79_t14 : Yba.zeroCells79[2144 + 66 * 14]? = some (.map none) := by kernel_rfl
theorem z79_t15 : Yba.zeroCells79[2144 + 66 * 15]? = some (.map none) := by kernel_rfl
theorem z79_t : ∀ p, p < 16 → Yba.zeroCells79[2144 + 66 * p]? = some (.map none)
  | 0, _ => z79_t0
  | 1, _ => z79_t1
  | 2, _ => z79_t2
  | 3, _ => z79_t3
  | 4, _ => z79_t4
  | 5, _ => z79_t5
  | 6, _ => z79_t6
  | 7, _ => z79_t7
  | 8, _ => z79_t8
  | 9, _ => z79_t9
  | 10, _ => z79_t10
  | 11, _ => z79_t11
  | 12, _ => z79_t12
  | 13, _ => z79_t13
  | 14, _ => z79_t14
  | 15, _ => z79_t15
  | p + 16, h => by omega
theorem build79 (w : World) : (Instr.build 79 #[]).run Yba.prog w = .ok (.agg Yba.zeroCells79) w := run_build w 79 #[] _ (by kernel_rfl)
theorem box79 (w : World) : (Instr.box 79 (.agg Yba.zeroCells79)).run Yba.prog w = .ok (.pointer (some ⟨w.heap.size, 0, none⟩)) (w.alloc (.cells Yba.zeroCells79 79)) := by
  simp [Instr.box, newVar, newRow, Value.cells]
/-- a new Manager -/
theorem Mg.start (w : World) : Mg (fun _ _ _ => False) w w.heap.size (fun _ => none) (fun _ => []) (fun _ => none) 0 (w.alloc (.cells Yba.zeroCells79 79)) := by
  refine ⟨Ext.alloc _ _, Nat.le_refl _, ⟨_, Blk.new _ _ _, z79s, ⟨by rw [z79s]; omega, z79_0, fun i hi => absurd hi (by simp), z79_7, fun _ => by simp⟩, z79_31, z79_p, z79_t⟩, (fun n b h => nomatch h), (fun n n' b h => nomatch h), fun _ _ _ _ => rfl, fun _ _ _ => rfl, rfl, fun _ _ _ h => h.elim⟩
end Go.Proofs.YbulkdtuwC
