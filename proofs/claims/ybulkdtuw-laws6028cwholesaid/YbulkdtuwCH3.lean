import Derived.Test.YbulkdtuwCH2
namespace Go.Proofs.YbulkdtuwC
open Go.RowKit Go.Proofs.YbulkdtuwB RawMap

section
variable {X : Nat → Array Value → TypeId → Prop} {w0 : World} {mb : Nat} {NB : Nd → Option Nat} {L : Rs → List (Nat × Nat)} {TP : Nat → Option Nat} {cnt : Nat} {wr : World}

theorem Mg.cTx2 (h : Mg X w0 mb NB L TP cnt wr) {p : Nat} (hp16 : p < 16) : wr.cell? ⟨mb, 2144 + p * 66, none⟩ = some (.map (TP p)) := by
  rw [show 2144 + p * 66 = 2144 + 66 * p by omega]; exact (h.cTx hp16).1

set_option maxRecDepth 100000 in
theorem txs_any (h : Mg X w0 mb NB L TP cnt wr) (tx : Nat) (v : Value) (hl : ∀ w', Ext (fun _ => False) wr w' → (Instr.lookup 72 (.map (TP (tx % 16))) (.int .u64 (tx : Nat)) false).run Yba.prog w' = .ok v w') :
    Calls Yba.prog 26 #[.pointer (some ⟨mb, 0, none⟩), .int .u64 (tx : Nat)] wr fun e w' => e = .returned v ∧ Ext (fun _ => False) wr w' := by
  have hp16 : tx % 16 < 16 := Nat.mod_lt _ (by omega)
  have h15 := fun w => partT_any tx w
  have c1 : wr.drew.cell? ⟨mb, 2144 + tx % 16 * 66, none⟩ = some (.map (TP (tx % 16))) := (h.ext0 (Ext.drewN wr 1)).cTx2 hp16
  have hl1 := hl wr.drew (Ext.drewN wr 1)
  clear h hl
  generalize tx % 16 = p at hp16 h15 c1 hl1
  have hp16i : ((p : Nat) : Int) < 16 := by omega
  have hp0i : (0 : Int) ≤ ((p : Nat) : Int) := by omega
  go_enter Yba.func26, Yba.ntmps26
  go_wp2_with fail
  go_region_held3 (fun w' => w'.cell? ⟨mb, 2144 + p * 66, none⟩ = some (.map (TP p))) (assumption) ((go_at_call 15; refine (h15 _).mono ?_; rintro e w1 ⟨rfl, rfl⟩))
  all_goals
    go_wp2_with fail
    go_ret
    exact ⟨rfl, Ext.drewN _ 1⟩

/-- Held, where the transaction has no state -/
theorem heldN_any (h : Mg X w0 mb NB L TP cnt wr) (tx : Nat) (htx : tx < 18446744073709551616) (r : Rs) (hT : TP (tx % 16) = none) :
    Calls Yba.prog 16 #[.pointer (some ⟨mb, 0, none⟩), .int .u64 (tx : Nat), .agg (resC r)] wr fun e w' => e = .returned (.int .u8 (0 : Nat)) ∧ Ext (fun _ => False) wr w' := by
  have HTX : Hid (∀ w', Ext (fun _ => False) wr w' → Calls Yba.prog 26 #[.pointer (some ⟨mb, 0, none⟩), .int .u64 (tx : Nat)] w' fun e w'' => e = .returned (.pointer none) ∧ Ext (fun _ => False) w' w'') := fun w' e => txs_any (h.ext0 e) tx (.pointer none) (fun w'' _ => by
    rw [hT]
    exact Maps.look_nil false keyed41 Yba.underlying72 (Yba.zeroValue86 _) (key41 tx htx))
  obtain ⟨Z0, Z1, Z2, Z3, Z4, hz⟩ := resC_form r
  rw [hz]
  have HW := hide (Ext.alloc wr (.cells #[.int .u8 Z0, .int .u8 Z1, .int .u8 Z2, .string Z3, .string Z4] 49))
  have h26 := HTX.out _ HW.out
  clear h hz HTX hT
  go_enter Yba.func16, Yba.ntmps16
  go_wp2_with (go_at_call 26; refine h26.mono ?_; rintro e w1 ⟨rfl, hx1⟩; have HE1 := hide (ecomp HW.out hx1); clear hx1)
  go_ret
  exact ⟨rfl, HE1.out⟩

/-- Held, where it has one -/
theorem heldS_any (h : Mg X w0 mb NB L TP cnt wr) (tx : Nat) (htx : tx < 18446744073709551616) (r : Rs) (hr : r.fit) {xb n tb : Nat} (hT : TP (tx % 16) = some xb) {f : Lit → Option Value} (hM : Mp Yba.prog 41 wr xb n f) (hf : f (.int .u64 (tx : Nat)) = some (.pointer (some ⟨tb, 0, none⟩)))
    (v : Value) (l : List (Rs × Nat)) (hl : l.length ≤ 1024) (h0 : wr.cell? ⟨tb, 0, none⟩ = some (.int .u64 (tx : Nat))) (hv : wr.cell? ⟨tb, 2, none⟩ = some v) (hI : ICells wr v l) :
    Calls Yba.prog 16 #[.pointer (some ⟨mb, 0, none⟩), .int .u64 (tx : Nat), .agg (resC r)] wr fun e w' => e = .returned (.int .u8 (holdsM l (L r) r tx : Nat)) ∧ Ext (fun _ => False) wr w' := by
  have HTX : Hid (∀ w', Ext (fun _ => False) wr w' → Calls Yba.prog 26 #[.pointer (some ⟨mb, 0, none⟩), .int .u64 (tx : Nat)] w' fun e w'' => e = .returned (.pointer (some ⟨tb, 0, none⟩)) ∧ Ext (fun _ => False) w' w'') := fun w' e => txs_any (h.ext0 e) tx (.pointer (some ⟨tb, 0, none⟩)) (fun w'' e2 => by
    rw [hT]
    have hM2 : Mp Yba.prog 41 w'' xb n f := hM.of ((ecomp e e2).block xb (RawMap.Mp.lt hM) id)
    rw [Mp.look hM2 keyed41 Yba.underlying72 (Yba.zeroValue86 _) (key41 tx htx), hf]; rfl)
  have HHO : Hid (∀ w', Ext (fun _ => False) wr w' → Calls Yba.prog 27 #[.pointer (some ⟨mb, 0, none⟩), .pointer (some ⟨tb, 0, none⟩), .agg (resC r)] w' fun e w'' => e = .returned (.int .u8 (holdsM l (L r) r tx : Nat)) ∧ Ext (fun _ => False) w' w'') := fun w' e => holds_any (h.ext0 e) r hr tb tx htx v l hl (ecell e h0) (ecell e hv) (hI.ext e)
  generalize holdsM l (L r) r tx = ans at HHO ⊢
  obtain ⟨Z0, Z1, Z2, Z3, Z4, hz⟩ := resC_form r
  rw [hz] at HHO ⊢
  have HW := hide (Ext.alloc wr (.cells #[.int .u8 Z0, .int .u8 Z1, .int .u8 Z2, .string Z3, .string Z4] 49))
  have HRB := hide (Blk.new wr #[.int .u8 Z0, .int .u8 Z1, .int .u8 Z2, .string Z3, .string Z4] 49)
  have h26 := HTX.out _ HW.out
  clear h hz HTX hT hM hf h0 hv hI
  go_enter Yba.func16, Yba.ntmps16
  go_wp2_with (first | (go_at_call 26; refine h26.mono ?_; rintro e w1 ⟨rfl, hx1⟩; have hE1 := ecomp HW.out hx1; have HR1 := HRB.out.ext hx1 id; have r0 : w1.cell? ⟨wr.heap.size, 0, none⟩ = some (.int .u8 Z0) := HR1.cell 0; have r1 : w1.cell? ⟨wr.heap.size, 1, none⟩ = some (.int .u8 Z1) := HR1.cell 1; have r2 : w1.cell? ⟨wr.heap.size, 2, none⟩ = some (.int .u8 Z2) := HR1.cell 2; have r3 : w1.cell? ⟨wr.heap.size, 3, none⟩ = some (.string Z3) := HR1.cell 3; have r4 : w1.cell? ⟨wr.heap.size, 4, none⟩ = some (.string Z4) := HR1.cell 4; have h27 := HHO.out w1 hE1; have HE1 := hide hE1; clear hE1 hx1 HR1) | (go_at_call 27; refine h27.mono ?_; rintro e w2 ⟨rfl, hx2⟩; have HE2 := hide (ecomp HE1.out hx2); clear hx2))
  go_ret
  exact ⟨rfl, HE2.out⟩
end
end Go.Proofs.YbulkdtuwC
