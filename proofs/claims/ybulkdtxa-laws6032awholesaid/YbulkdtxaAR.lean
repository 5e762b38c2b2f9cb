import Derived.Test.YbulkdtxaAX3
import Derived.Deep.RegionHeld3
import Derived.Deep.RegionLaw
namespace Go.Proofs.YbulkdtxaA
open Go.RowKit RawMap

/-- append of one element as a step of a region that draws its order -/
theorem step_append_one {P : Program} {w : World} {ops : Array Oper} {o : Oper} {a : Act} {K : Act → World → Prop} {Q : Exit → Act → World → Prop} {E : Prop} (hgd : o.guard = none) (s x : Operand) (t : TypeId)
    (ho : o.op = .call { callee := .builtin .append, args := #[s, x], argTypes := #[t, t] })
    (e : TypeId) (i : TypeInfo) (z : Value) (bytes : Nat) (ht : P.underlying t = some (.slice e)) (hi : P.info? e = some i) (hz : i.zero = some z)
    (hsize : i.size = 1) (hby : i.bytes = bytes) (hzs : z.cells.size = 1) (v : Value) (xs : List Value) (hs : a.eval s = v) (hown : Own w e v xs)
    (ad : Addr) (u : Value) (hx : a.eval x = .slice (some ad) 1 1) (hnew : w.cell? ad = some u) (ha : ad.spot = none) (h1 : u.oneCell' = true) (h63 : xs.length + 1 ≤ maxLen) (hbytes : (xs.length + 1) * bytes ≤ 140737488355328)
    (h : ∀ v' w', Own w' e v' (xs ++ [u]) → w.grownBy w' v.ownBlock → Hid (∃ g', v'.ownBlock = some g' ∧ (v.ownBlock = some g' ∨ w.heap.size ≤ g')) → K (a.put o.dst v') w') :
    if Region.wanted o (yielded ops a.tmps) = true then Oper.wp P o a w K Q else E := by
  have hw : Region.wanted o (yielded ops a.tmps) = true := by simp [Region.wanted, hgd]
  rw [if_pos hw]
  obtain ⟨v', w', hr, h2, h3, h4⟩ := run_append_one (P := P) (ty := o.type) ht hi hz hsize hby hzs hown ad u hnew ha h1 h63 hbytes
  unfold Oper.wp execOp
  simp only [ho, resolve, invoke, builtin, Sem.run_bind, Sem.run_pure, Result.andThen_ok, List.map_toArray, List.map_cons, List.map_nil, hs, hx, hr]
  exact h v' w' h2 h3 h4
end Go.Proofs.YbulkdtxaA
