import Derived.Test.YbulkdtuwCH1
namespace Go.Proofs.YbulkdtuwC
open Go.RowKit Go.Proofs.YbulkdtuwB RawMap

/-- the mode that Held answers -/
def holdsM (l : List (Rs × Nat)) (g : List (Nat × Nat)) (r : Rs) (tx : Nat) : Nat := match idxOf l r with | some i => (l.getD i (.store, 0)).2 | none => (look g tx).getD 0

section
variable {X : Nat → Array Value → TypeId → Prop} {w0 : World} {mb : Nat} {NB : Nd → Option Nat} {L : Rs → List (Nat × Nat)} {TP : Nat → Option Nat} {cnt : Nat} {wr : World}

theorem found_at (h : Mg X w0 mb NB L TP cnt wr) (r : Rs) : (∃ b, found mb NB r = .pointer (some ⟨b, 0, none⟩) ∧ At mb NB r b) ∨ (found mb NB r = .pointer none ∧ L r = []) := by
  cases r with
  | store => exact .inl ⟨mb, rfl, .inl ⟨rfl, rfl⟩⟩
  | tab t =>
    cases hn : NB (.ent (.tab t)) with
    | none => exact .inr ⟨by simp [found, hn, ptr], h.lnil _ (by simp) hn⟩
    | some b => exact .inl ⟨b, by simp [found, hn, ptr], .inr ⟨by simp, hn⟩⟩
  | key g t k =>
    cases hn : NB (.ent (.key g t k)) with
    | none => exact .inr ⟨by simp [found, hn, ptr], h.lnil _ (by simp) hn⟩
    | some b => exact .inl ⟨b, by simp [found, hn, ptr], .inr ⟨by simp, hn⟩⟩

set_option maxRecDepth 100000 in
set_option maxHeartbeats 2000000 in
theorem holds_any (h : Mg X w0 mb NB L TP cnt wr) (r : Rs) (hr : r.fit) (tb tx : Nat) (htx : tx < 18446744073709551616) (v : Value) (l : List (Rs × Nat)) (hl : l.length ≤ 1024) (h0 : wr.cell? ⟨tb, 0, none⟩ = some (.int .u64 (tx : Nat))) (hv : wr.cell? ⟨tb, 2, none⟩ = some v) (hI : ICells wr v l) :
    Calls Yba.prog 27 #[.pointer (some ⟨mb, 0, none⟩), .pointer (some ⟨tb, 0, none⟩), .agg (resC r)] wr fun e w' => e = .returned (.int .u8 (holdsM l (L r) r tx : Nat)) ∧ Ext (fun _ => False) wr w' := by
  have HIO : Hid (∀ w', Ext (fun _ => False) wr w' → Calls Yba.prog 44 #[.pointer (some ⟨tb, 0, none⟩), .agg (resC r)] w' fun e w'' => e = .returned (.int .i64 (idxI l r)) ∧ Ext (fun _ => False) w' w'') := fun w' e => intentOn_any tb v l r w' hl (ecell e hv) (hI.ext e)
  have HFD : Hid (∀ w', Ext (fun _ => False) wr w' → Calls Yba.prog 45 #[.pointer (some ⟨mb, 0, none⟩), .agg (resC r)] w' fun e w'' => e = .returned (found mb NB r) ∧ Ext (fun _ => False) w' w'') := fun w' e => find_any (h.ext0 e) r hr
  have HFA := hide (found_at h r)
  have HMD : Hid (∀ w' b, Ext (fun _ => False) wr w' → At mb NB r b → Calls Yba.prog 46 #[.pointer (some ⟨b, 0, none⟩), .int .u64 (tx : Nat)] w' fun e w'' => e = .returned (.int .u8 ((look (L r) tx).getD 0 : Nat)) ∧ w'' = w') := fun w' b e ha => mode_any (h.ext0 e) ha tx htx
  obtain ⟨a, c, rfl, hc⟩ := hI
  have HC := hide hc
  clear h hc
  obtain ⟨Z0, Z1, Z2, Z3, Z4, hz⟩ := resC_form r
  rw [hz] at HIO HFD ⊢
  have HW := hide (Ext.alloc wr (.cells #[.int .u8 Z0, .int .u8 Z1, .int .u8 Z2, .string Z3, .string Z4] 49))
  have HRB := hide (Blk.new wr #[.int .u8 Z0, .int .u8 Z1, .int .u8 Z2, .string Z3, .string Z4] 49)
  have h44 := HIO.out _ HW.out
  have H0 := hide h0
  have HV := hide hv
  clear hz h0 hv HIO
  cases hix : idxOf l r with
  | some i =>
    have hil : i < l.length := by
      unfold idxOf at hix
      rw [List.findIdx?_eq_some_iff_getElem] at hix
      exact hix.1
    have HHM : Hid (holdsM l (L r) r tx = l[i].2) := by
      show _ = _
      unfold holdsM
      rw [hix]
      simp only
      rw [List.getD_eq_getElem?_getD, List.getElem?_eq_getElem hil]; rfl
    have hii : idxI l r = (i : Int) := by unfold idxI; rw [hix]
    rw [hii] at h44
    obtain ⟨g, rfl, hc⟩ := HC.out (fun e => by rw [e] at hil; simp at hil)
    have hcm := (hc i hil).2
    obtain ⟨m, hm⟩ : ∃ m, l[i].2 = m := ⟨_, rfl⟩
    rw [hm] at hcm HHM
    have HCM := hide hcm
    clear hix hii hc hcm hm HFD HFA HMD HC
    rw [HHM.out]
    go_enter Yba.func27, Yba.ntmps27
    go_wp2_with (go_at_call 44; refine h44.mono ?_; rintro e w1 ⟨rfl, hx1⟩; have hE1 := ecomp HW.out hx1; have v2 := ecell hE1 HV.out; have v5 := ecell hE1 HCM.out; have HE1 := hide hE1; clear hE1 hx1)
    go_ret
    exact ⟨rfl, HE1.out⟩
  | none =>
    have HHM : Hid (holdsM l (L r) r tx = (look (L r) tx).getD 0) := by show _ = _; unfold holdsM; rw [hix]
    have hii : idxI l r = -1 := by unfold idxI; rw [hix]
    rw [hii] at h44
    clear hix hii HC HV
    rw [HHM.out]
    rcases HFA.out with ⟨b, hfb, hat⟩ | ⟨hfn, hln⟩
    · rw [hfb] at HFD
      have HAT := hide hat
      clear hfb hat HFA
      go_enter Yba.func27, Yba.ntmps27
      go_wp2_with (first | (go_at_call 44; refine h44.mono ?_; rintro e w1 ⟨rfl, hx1⟩; have hE1 := ecomp HW.out hx1; have HR1 := HRB.out.ext hx1 id; have r0 : w1.cell? ⟨wr.heap.size, 0, none⟩ = some (.int .u8 Z0) := HR1.cell 0; have r1 : w1.cell? ⟨wr.heap.size, 1, none⟩ = some (.int .u8 Z1) := HR1.cell 1; have r2 : w1.cell? ⟨wr.heap.size, 2, none⟩ = some (.int .u8 Z2) := HR1.cell 2; have r3 : w1.cell? ⟨wr.heap.size, 3, none⟩ = some (.string Z3) := HR1.cell 3; have r4 : w1.cell? ⟨wr.heap.size, 4, none⟩ = some (.string Z4) := HR1.cell 4; have h45 := HFD.out w1 hE1; have HE1 := hide hE1; clear hE1 hx1 HR1) | (go_at_call 45; refine h45.mono ?_; rintro e w2 ⟨rfl, hx2⟩; have hE2 := ecomp HE1.out hx2; have HE2 := hide hE2; clear hE2 hx2))
      have i0 : w2.drew.cell? ⟨tb, 0, none⟩ = some (.int .u64 (tx : Nat)) := ecell (ecomp HE2.out (Ext.drewN _ 1)) H0.out
      have h46 := HMD.out w2.drew b (ecomp HE2.out (Ext.drewN _ 1)) HAT.out
      go_region_held3 (fun w' => w'.cell? ⟨tb, 0, none⟩ = some (.int .u64 (tx : Nat))) (assumption) ((go_at_call 46; refine h46.mono ?_; rintro e w3 ⟨rfl, rfl⟩))
      all_goals
        go_wp2_with fail
        go_ret
        exact ⟨rfl, ecomp HE2.out (Ext.drewN _ 1)⟩
    · rw [hfn] at HFD
      have HLN := hide hln
      clear hfn hln HFA HMD
      go_enter Yba.func27, Yba.ntmps27
      go_wp2_with (first | (go_at_call 44; refine h44.mono ?_; rintro e w1 ⟨rfl, hx1⟩; have hE1 := ecomp HW.out hx1; have HR1 := HRB.out.ext hx1 id; have r0 : w1.cell? ⟨wr.heap.size, 0, none⟩ = some (.int .u8 Z0) := HR1.cell 0; have r1 : w1.cell? ⟨wr.heap.size, 1, none⟩ = some (.int .u8 Z1) := HR1.cell 1; have r2 : w1.cell? ⟨wr.heap.size, 2, none⟩ = some (.int .u8 Z2) := HR1.cell 2; have r3 : w1.cell? ⟨wr.heap.size, 3, none⟩ = some (.string Z3) := HR1.cell 3; have r4 : w1.cell? ⟨wr.heap.size, 4, none⟩ = some (.string Z4) := HR1.cell 4; have h45 := HFD.out w1 hE1; have HE1 := hide hE1; clear hE1 hx1 HR1) | (go_at_call 45; refine h45.mono ?_; rintro e w2 ⟨rfl, hx2⟩; have hE2 := ecomp HE1.out hx2; have HE2 := hide hE2; clear hE2 hx2))
      go_ret
      refine ⟨?_, HE2.out⟩
      rw [HLN.out]; rfl
end
end Go.Proofs.YbulkdtuwC
