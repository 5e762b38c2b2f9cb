import Derived.Test.YbulkdtxaAX4
namespace Go.Proofs.YbulkdtxaA
open Go.RowKit RawMap

theorem cell_lt {w : World} {a : Addr} {v : Value} (h : w.cell? a = some v) : a.block < w.heap.size := by
  rcases Nat.lt_or_ge a.block w.heap.size with h' | h'
  · exact h'
  · unfold World.cell? at h
    rw [Array.getElem?_eq_none h'] at h
    cases h
theorem Ext.cell {ex : Nat → Prop} {w w' : World} (e : Ext ex w w') {a : Addr} {v : Value} (h : w.cell? a = some v) (hn : ¬ ex a.block) : w'.cell? a = some v := by
  have := e.block a.block (cell_lt h) hn
  unfold World.cell? at h ⊢
  rw [this]; exact h
theorem add_block (a : Addr) (j : Nat) : (a.add j).block = a.block := by unfold Addr.add; split <;> rfl

/-- the state inside one round of newTagIndex: 'sl' are the tags seen -/
def MSt (w : World) (xb fb lb sb : Nat) (low sl : List (List UInt8)) (con : Kd → List Nat) (k nm : Nat) (wr : World) : Prop :=
  ∃ vw vt ws row fm lm, Idx w xb fb lb vw vt ((row .all).getD nilS) vw vt ws low row con nm fm lm wr ∧ ws.length = low.length ∧
  (∃ sm, Mp Yba.prog 9 wr sb k sm ∧ ∀ t, sm (.string t) = if t ∈ sl then some (.bool true) else none) ∧ (sb ≠ xb ∧ sb ≠ fb ∧ sb ≠ lb ∧ w.heap.size ≤ sb)

theorem MSt.ext {w : World} {xb fb lb sb : Nat} {low sl : List (List UInt8)} {con : Kd → List Nat} {k nm : Nat} {wr w' : World} (h : MSt w xb fb lb sb low sl con k nm wr) (e : Ext (fun _ => False) wr w') : MSt w xb fb lb sb low sl con k nm w' := by
  obtain ⟨vw, vt, ws, row, fm, lm, hI, hl, ⟨sm, hs, hs2⟩, hx⟩ := h
  exact ⟨vw, vt, ws, row, fm, lm, hI.extend e (fun _ _ => id) id id id (fun _ _ _ _ _ => id) (fun _ _ => id) (fun _ _ => id), hl, ⟨sm, hs.of (e.block sb hs.lt id), hs2⟩, hx⟩
theorem NSt.mid {w : World} {xb fb lb sb i : Nat} {low : List (List UInt8)} {wr : World} (h : NSt w xb fb lb sb low i wr) : ∃ nm, nm ≤ i * 2097153 ∧ MSt w xb fb lb sb low low (conOf low) i nm wr := by
  obtain ⟨⟨vw, vt, ws, row, nm, fm, lm, hI, hl, hn⟩, hs, hx⟩ := h
  exact ⟨nm, hn, vw, vt, ws, row, fm, lm, hI, hl, hs, hx⟩
theorem MSt.back {w : World} {xb fb lb sb i nm : Nat} {low : List (List UInt8)} {wr : World} (h : MSt w xb fb lb sb low low (conOf low) i nm wr) (hn : nm ≤ i * 2097153) : NSt w xb fb lb sb low i wr := by
  obtain ⟨vw, vt, ws, row, fm, lm, hI, hl, hs, hx⟩ := h
  exact ⟨⟨vw, vt, ws, row, nm, fm, lm, hI, hl, hn⟩, hs, hx⟩
theorem MSt.up {w : World} {xb fb lb sb k nm : Nat} {low sl : List (List UInt8)} {con : Kd → List Nat} {wr : World} (h : MSt w xb fb lb sb low sl con k nm wr) {k' : Nat} (hk : k ≤ k') : MSt w xb fb lb sb low sl con k' nm wr := by
  obtain ⟨vw, vt, ws, row, fm, lm, hI, hl, ⟨sm, hs, hs2⟩, hx⟩ := h
  exact ⟨vw, vt, ws, row, fm, lm, hI, hl, ⟨sm, hs.mono hk, hs2⟩, hx⟩

/-- seen[t] -/
theorem MSt.seen {w : World} {xb fb lb sb k nm : Nat} {low sl : List (List UInt8)} {con : Kd → List Nat} {wr : World} (h : MSt w xb fb lb sb low sl con k nm wr) (t : List UInt8) (ht : t.length ≤ 2097152) :
    (Instr.lookup 41 (.map (some sb)) (.string (str t)) false).run Yba.prog wr = .ok (.bool (decide (t ∈ sl))) wr := by
  obtain ⟨vw, vt, ws, row, fm, lm, hI, hl, ⟨sm, hs, hs2⟩, hx⟩ := h
  rw [hs.look keyed9 Yba.underlying41 (Yba.zeroValue4 _) (key9 t ht), hs2]
  by_cases hm : t ∈ sl <;> simp [hm]
/-- seen[t] = true -/
theorem MSt.mark {w : World} {xb fb lb sb k nm : Nat} {low sl : List (List UInt8)} {con : Kd → List Nat} {wr : World} (h : MSt w xb fb lb sb low sl con k nm wr) (t : List UInt8) (ht : t.length ≤ 2097152) (hk : k < maxLen) :
    ∃ w', (Instr.mapUpdate 41 (.map (some sb)) (.string (str t)) (.bool true)).run Yba.prog wr = .ok () w' ∧ MSt w xb fb lb sb low (sl ++ [t]) con (k + 1) nm w' := by
  obtain ⟨vw, vt, ws, row, fm, lm, hI, hl, ⟨sm, hs, hs2⟩, hx⟩ := h
  obtain ⟨w', hrun, hp, hg⟩ := hs.put keyed9 Yba.underlying41 hk (key9 t ht) (val := .bool true)
  have far : ∀ {g : Nat} {c : Array Value} {ty : TypeId}, Blk wr g c ty → ¬ (some sb = some g) := fun hb e => by injection e with e; exact Mp.notcells hs hb e.symm
  refine ⟨w', hrun, vw, vt, ws, row, fm, lm, hI.extend (Ext.grown hg) (fun k hk e => by injection e with e; have := hx.2.2.2; omega) (far hI.xblk) (fun e => by injection e with e; exact hx.2.1 e) (fun e => by injection e with e; exact hx.2.2.1 e)
    (fun k v g hv hgv => by obtain ⟨_, c, hc⟩ := (hI.fam.own k v hv).lt hgv; exact far hc) (fun g hgv => by obtain ⟨_, c, hc⟩ := hI.ownW.lt hgv; exact far hc) (fun g hgv => by obtain ⟨_, c, hc⟩ := hI.ownT.lt hgv; exact far hc), hl, ⟨_, hp, fun x => ?_⟩, hx⟩
  by_cases hxt : x = t
  · subst hxt
    rw [upd_same]; simp
  · rw [upd_other _ _ (fun e => hxt (by injection e)), hs2]
    simp [hxt]
end Go.Proofs.YbulkdtxaA
