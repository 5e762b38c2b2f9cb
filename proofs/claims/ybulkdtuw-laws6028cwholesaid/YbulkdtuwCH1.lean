import Derived.Test.YbulkdtuwCF2
import Derived.Laws.StructEq
namespace Go.Proofs.YbulkdtuwC
open Go.RowKit Go.Proofs.YbulkdtuwB RawMap

theorem u49 : Yba.prog.underlying 49 = some (.struct (Yba.prog.fieldsOf 49)) := by unfold Program.fieldsOf; rw [Yba.underlying49]
theorem g49 : Yba.prog.eqGuardType Yba.prog.depth 49 = false := by kernel_rfl
theorem s49 : Yba.prog.stoodInHeld 49 = false := by kernel_rfl
theorem f49 : (Yba.prog.fieldsOf 49).toList = [⟨"depth", 5, 0, false, "", "example.com/ordinal/ordinal/internal/lock", 0⟩, ⟨"span", 47, 1, false, "", "example.com/ordinal/ordinal/internal/lock", 1⟩, ⟨"part", 5, 2, false, "", "example.com/ordinal/ordinal/internal/lock", 2⟩, ⟨"table", 9, 3, false, "", "example.com/ordinal/ordinal/internal/lock", 8⟩, ⟨"key", 9, 4, false, "", "example.com/ordinal/ordinal/internal/lock", 24⟩] := by kernel_rfl

theorem toList_iff (s t : ByteArray) : (s.toList = t.toList) ↔ s = t := by
  have h1 := toList_beq s t
  constructor
  · intro h
    rw [h] at h1
    simpa using h1.symm
  · intro h; rw [h]
theorem resC_form (r : Rs) : ∃ (n0 n1 n2 : Int) (s k : ByteArray), resC r = #[.int .u8 n0, .int .u8 n1, .int .u8 n2, .string s, .string k] := by
  cases r <;> exact ⟨_, _, _, _, _, rfl⟩
theorem eq5 (a1 a2 a3 b1 b2 b3 : Int) (s1 s2 t1 t2 : ByteArray) (w : World) : (binOp .eql 49 (.agg #[.int .u8 a1, .int .u8 a2, .int .u8 a3, .string s1, .string s2]) (.agg #[.int .u8 b1, .int .u8 b2, .int .u8 b3, .string t1, .string t2])).run Yba.prog w = .ok (.bool (decide (a1 = b1 ∧ a2 = b2 ∧ a3 = b3 ∧ s1 = t1 ∧ s2 = t2))) w := by
  rw [run_eql_struct, run_equalIn_agg _ _ _ _ _ u49 s49, f49]
  have hs := toList_iff s1 t1
  have ht := toList_iff s2 t2
  simp [Op.eqFields, part, Yba.sizeOf5, Yba.sizeOf47, Yba.sizeOf9, Yba.isAgg5, Yba.isAgg47, Yba.isAgg9, run_equalIn_int _ _ _ _ _ _ _ Yba.underlying5, run_equalIn_int _ _ _ _ _ _ _ Yba.underlying47, run_equalIn_string _ _ _ _ _ Yba.underlying9]
  by_cases h1 : a1 = b1 <;> by_cases h2 : a2 = b2 <;> by_cases h3 : a3 = b3 <;> by_cases h4 : s1 = t1 <;> by_cases h5 : s2 = t2 <;> simp [h1, h2, h3, h4, h5, hs, ht]
theorem eqR (a b : Rs) (w : World) : (binOp .eql 49 (.agg (resC a)) (.agg (resC b))).run Yba.prog w = .ok (.bool (decide (a = b))) w := by
  cases a with
  | store =>
    cases b with
    | store => rw [resC, eq5]; simp
    | tab t => rw [resC, resC, eq5]; simp
    | key g t k => rw [resC, resC, eq5]; simp
  | tab t =>
    cases b with
    | store => rw [resC, resC, eq5]; simp
    | tab t' => rw [resC, resC, eq5]; simp
    | key g t' k => rw [resC, resC, eq5]; simp
  | key g t k =>
    cases b with
    | store => rw [resC, resC, eq5]; simp
    | tab t' => rw [resC, resC, eq5]; simp
    | key g' t' k' =>
      rw [resC, resC, eq5]
      congr 2
      by_cases h : (Rs.key g t k) = .key g' t' k'
      · injection h with e1 e2 e3
        subst e1 e2 e3
        simp
      · rw [decide_eq_false h, decide_eq_false]
        rintro ⟨_, e1, _, e2, e3⟩
        apply h
        subst e2 e3
        cases g <;> cases g' <;> simp at e1 ⊢

theorem ecell {w w' : World} (e : Ext (fun _ => False) w w') {ad : Addr} {y : Value} (hx : w.cell? ad = some y) : w'.cell? ad = some y := by
  have hlt : ad.block < w.heap.size := by
    rcases Nat.lt_or_ge ad.block w.heap.size with h' | h'
    · exact h'
    · unfold World.cell? at hx; rw [Array.getElem?_eq_none h'] at hx; cases hx
  have := e.block ad.block hlt id
  unfold World.cell? at hx ⊢
  rw [this]; exact hx
/-- a slice of intents -/
def ICells (w : World) (v : Value) (l : List (Rs × Nat)) : Prop := ∃ a c, v = .slice a l.length c ∧ (l ≠ [] → ∃ g, a = some ⟨g, 0, none⟩ ∧ ∀ i (hi : i < l.length), (∀ j, j < 5 → w.cell? ⟨g, i * 6 + j, none⟩ = (resC l[i].1)[j]?) ∧ w.cell? ⟨g, i * 6 + 5, none⟩ = some (.int .u8 (l[i].2 : Nat)))
theorem ICells.ext {w w' : World} {v : Value} {l : List (Rs × Nat)} (h : ICells w v l) (e : Ext (fun _ => False) w w') : ICells w' v l := by
  obtain ⟨a, c, rfl, h⟩ := h
  refine ⟨a, c, rfl, fun hn => ?_⟩
  obtain ⟨g, rfl, hc⟩ := h hn
  have key : ∀ {ad : Addr} {x : Option Value}, (∃ y, x = some y) → w.cell? ad = x → w'.cell? ad = x := by
    rintro ad x ⟨y, rfl⟩ hx
    exact ecell e hx
  refine ⟨g, rfl, fun i hi => ⟨fun j hj => key ?_ ((hc i hi).1 j hj), key ⟨_, rfl⟩ (hc i hi).2⟩⟩
  have : (resC l[i].1).size = 5 := by cases l[i].1 <;> rfl
  exact ⟨_, Array.getElem?_eq_getElem (by omega)⟩
/-- where the resource stands among them -/
def idxOf (l : List (Rs × Nat)) (r : Rs) : Option Nat := l.findIdx? (fun e => decide (e.1 = r))
def idxI (l : List (Rs × Nat)) (r : Rs) : Int := match idxOf l r with | some i => (i : Int) | none => -1
theorem idx_hit {l : List (Rs × Nat)} {r : Rs} {i : Nat} (hi : i < l.length) (hno : ∀ j (hj : j < l.length), j < i → l[j].1 ≠ r) (he : l[i].1 = r) : idxOf l r = some i := by
  unfold idxOf
  rw [List.findIdx?_eq_some_iff_getElem]
  exact ⟨hi, by simp [he], fun j hj => by simp [hno j (by omega) hj]⟩
theorem idx_none {l : List (Rs × Nat)} {r : Rs} (hno : ∀ j (hj : j < l.length), l[j].1 ≠ r) : idxOf l r = none := by
  unfold idxOf
  rw [List.findIdx?_eq_none_iff]
  intro x hx
  obtain ⟨j, hj, rfl⟩ := List.getElem_of_mem hx
  simpa using hno j hj

set_option maxRecDepth 100000 in
set_option maxHeartbeats 2000000 in
theorem intentOn_any (tb : Nat) (v : Value) (l : List (Rs × Nat)) (r : Rs) (w : World) (hl : l.length ≤ 1024) (hv : w.cell? ⟨tb, 2, none⟩ = some v) (hI : ICells w v l) :
    Calls Yba.prog 44 #[.pointer (some ⟨tb, 0, none⟩), .agg (resC r)] w fun e w' => e = .returned (.int .i64 (idxI l r)) ∧ Ext (fun _ => False) w w' := by
  obtain ⟨a, c, rfl, hc⟩ := hI
  have HC := hide hc
  clear hc
  have hq := fun w => fun x : Rs => eqR x r w
  have hg : ∀ x y xs ys w, (eqGuard .eql 49 x y (.agg xs) (.agg ys)).run Yba.prog w = .ok () w := fun x y xs ys w => run_eqGuard_agg w _ _ _ _ _ _ g49
  obtain ⟨Z0, Z1, Z2, Z3, Z4, hz⟩ := resC_form r
  rw [hz] at hq ⊢
  clear hz
  have HW := hide (Ext.alloc w (.cells #[.int .u8 Z0, .int .u8 Z1, .int .u8 Z2, .string Z3, .string Z4] 49))
  have HRB := hide (Blk.new w #[.int .u8 Z0, .int .u8 Z1, .int .u8 Z2, .string Z3, .string Z4] 49)
  have hv1 : (w.alloc (.cells #[.int .u8 Z0, .int .u8 Z1, .int .u8 Z2, .string Z3, .string Z4] 49)).cell? ⟨tb, 2, none⟩ = some (.slice a l.length c) := ecell HW.out hv
  clear hv
  go_enter Yba.func44, Yba.ntmps44
  go_wp2_with fail
  generalize w.alloc (.cells #[.int .u8 Z0, .int .u8 Z1, .int .u8 Z2, .string Z3, .string Z4] 49) = W at HW HRB hv1 ⊢
  generalize w.heap.size = rb at HRB ⊢
  go_loopg [12] l.length (fun f s12 wx => ∃ i : Nat, s12 = .int .i64 (i : Nat) ∧ i ≤ l.length ∧ l.length - i ≤ f ∧ Hid (Ext (fun _ => False) W wx) ∧ Hid (∀ j (hj : j < l.length), j < i → l[j].1 ≠ r))
  case atStart => exact ⟨0, rfl, by omega, by omega, erefl _, fun j _ h => absurd h (by omega)⟩
  case round =>
    obtain ⟨i, rfl, hi, hf, hE, hno⟩ := hrel
    by_cases hlt : i < l.length
    · obtain ⟨g, rfl, hc⟩ := HC.out (fun e => by rw [e] at hlt; simp at hlt)
      obtain ⟨hc5, hcm⟩ := hc i hlt
      have hEw := ecomp HW.out hE.out
      obtain ⟨x, hx⟩ : ∃ x, l[i].1 = x := ⟨_, rfl⟩
      obtain ⟨m, hm⟩ : ∃ m, l[i].2 = m := ⟨_, rfl⟩
      rw [hx] at hc5
      rw [hm] at hcm
      have hqx := fun w => hq w x
      obtain ⟨Y0, Y1, Y2, Y3, Y4, hy⟩ := resC_form x
      rw [hy] at hc5 hqx
      have d0 : wr.cell? ⟨g, i * 6, none⟩ = some (.int .u8 Y0) := ecell hEw (hc5 0 (by omega))
      have d1 : wr.cell? ⟨g, i * 6 + 1, none⟩ = some (.int .u8 Y1) := ecell hEw (hc5 1 (by omega))
      have d2 : wr.cell? ⟨g, i * 6 + 2, none⟩ = some (.int .u8 Y2) := ecell hEw (hc5 2 (by omega))
      have d3 : wr.cell? ⟨g, i * 6 + 3, none⟩ = some (.string Y3) := ecell hEw (hc5 3 (by omega))
      have d4 : wr.cell? ⟨g, i * 6 + 4, none⟩ = some (.string Y4) := ecell hEw (hc5 4 (by omega))
      have d5 : wr.cell? ⟨g, i * 6 + 5, none⟩ = some (.int .u8 (m : Nat)) := ecell hEw hcm
      have HRA := (HRB.out.ext hE.out id).alloc (.cells #[.int .u8 Y0, .int .u8 Y1, .int .u8 Y2, .string Y3, .string Y4, .int .u8 (m : Nat)] 93)
      have e0 : (wr.alloc (.cells #[.int .u8 Y0, .int .u8 Y1, .int .u8 Y2, .string Y3, .string Y4, .int .u8 (m : Nat)] 93)).cell? ⟨rb, 0, none⟩ = some (.int .u8 Z0) := HRA.cell 0
      have e1 : (wr.alloc (.cells #[.int .u8 Y0, .int .u8 Y1, .int .u8 Y2, .string Y3, .string Y4, .int .u8 (m : Nat)] 93)).cell? ⟨rb, 1, none⟩ = some (.int .u8 Z1) := HRA.cell 1
      have e2 : (wr.alloc (.cells #[.int .u8 Y0, .int .u8 Y1, .int .u8 Y2, .string Y3, .string Y4, .int .u8 (m : Nat)] 93)).cell? ⟨rb, 2, none⟩ = some (.int .u8 Z2) := HRA.cell 2
      have e3 : (wr.alloc (.cells #[.int .u8 Y0, .int .u8 Y1, .int .u8 Y2, .string Y3, .string Y4, .int .u8 (m : Nat)] 93)).cell? ⟨rb, 3, none⟩ = some (.string Z3) := HRA.cell 3
      have e4 : (wr.alloc (.cells #[.int .u8 Y0, .int .u8 Y1, .int .u8 Y2, .string Y3, .string Y4, .int .u8 (m : Nat)] 93)).cell? ⟨rb, 4, none⟩ = some (.string Z4) := HRA.cell 4
      have HX := hide hx
      clear HRA hc5 hcm hc hEw hx hm hy hq
      by_cases hxr : x = r
      · rw [decide_eq_true hxr] at hqx
        have HLK : Hid (idxOf l r = some i) := idx_hit hlt hno.out (HX.out.trans hxr)
        clear hxr
        go_wp2_with fail
        go_ret
        refine ⟨?_, ecomp HW.out (ecomp hE.out (Ext.alloc _ _))⟩
        rw [idxI, HLK.out]; rfl
      · rw [decide_eq_false hxr] at hqx
        have HNE : Hid (l[i].1 ≠ r) := by show _ ≠ _; rw [HX.out]; exact hxr
        clear hxr
        go_wp2_with fail
        go_roundg (l.length - (i + 1))
        case measure => omega
        case rel =>
          refine ⟨i + 1, by go_num, by omega, by omega, ecomp hE.out (Ext.alloc _ _), fun j hj hji => ?_⟩
          rcases Nat.lt_or_eq_of_le (Nat.le_of_lt_succ hji) with h | h
          · exact hno.out j hj h
          · subst h; exact HNE.out
    · have HLK : Hid (idxOf l r = none) := idx_none (fun j hj => hno.out j hj (by omega))
      go_wp2_with fail
      go_ret
      refine ⟨?_, ecomp HW.out hE.out⟩
      rw [idxI, HLK.out]; rfl
end Go.Proofs.YbulkdtuwC
