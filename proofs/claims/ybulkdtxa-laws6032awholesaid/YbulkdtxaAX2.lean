import Derived.Test.YbulkdtxaAX1
import Derived.Deep.RegionHeld3
namespace Go.Proofs.YbulkdtxaA
open Go.RowKit RawMap

theorem run_makeHint (w : World) (n : Int) : (Instr.makeMap 41 (some (.int .i64 n))).run Yba.prog w = .ok (.map (some w.heap.size)) (w.alloc (.map #[] 0)) := by
  simp [Instr.makeMap, run_underlying Yba.underlying41, asInt, asIntOf, Result.andThen]

/-- the index in memory; x0 x1 x2: what the struct's three slice fields hold just now -/
structure Idx (w : World) (xb fb lb : Nat) (x0 x1 x2 vw vt : Value) (ws low : List (List UInt8)) (row : Kd → Option Value) (con : Kd → List Nat) (nm : Nat) (fm lm : Lit → Option Value) (wr : World) : Prop where
  ext : Ext (fun _ => False) w wr
  xblk : Blk wr xb #[x0, x1, x2, .map (some fb), .map (some lb)] 36
  fam : Fam w row con wr
  ownW : Own wr 9 vw (ws.map encS)
  ownT : Own wr 9 vt (low.map encS)
  freshX : w.heap.size ≤ xb
  freshW : ∀ g, vw.ownBlock = some g → w.heap.size ≤ g
  freshT : ∀ g, vt.ownBlock = some g → w.heap.size ≤ g
  apart : ∀ g, vw.ownBlock = some g → vt.ownBlock ≠ some g
  fmap : Mp Yba.prog 9 wr fb nm fm
  lmap : Mp Yba.prog 9 wr lb nm lm
  frow : ∀ s, fm (.string s) = row (.first s)
  lrow : ∀ s, lm (.string s) = row (.later s)
  freshF : w.heap.size ≤ fb
  freshL : w.heap.size ≤ lb
  fl : fb ≠ lb

theorem Mp.notcells {P : Program} {k : TypeId} {w : World} {b n : Nat} {f : Lit → Option Value} (h : Mp P k w b n f) {g : Nat} {c : Array Value} {t : TypeId} (hb : Blk w g c t) : g ≠ b := by
  rintro rfl
  obtain ⟨D, ⟨es, cl, h1, _⟩, _⟩ := h
  unfold Blk at hb
  rw [hb] at h1
  cases h1

section
variable {w : World} {xb fb lb : Nat} {x0 x1 x2 vw vt : Value} {ws low : List (List UInt8)} {row : Kd → Option Value} {con : Kd → List Nat} {nm : Nat} {fm lm : Lit → Option Value} {wr : World}

/-- what an append, an alloc, a store into other blocks leaves -/
theorem Idx.extend (h : Idx w xb fb lb x0 x1 x2 vw vt ws low row con nm fm lm wr) {w' : World} {ex : Nat → Prop} (e : Ext ex wr w') (hw : ∀ k, k < w.heap.size → ¬ ex k) (hx : ¬ ex xb) (hfb : ¬ ex fb) (hlb : ¬ ex lb)
    (hr : ∀ k v g, row k = some v → v.ownBlock = some g → ¬ ex g) (hvw : ∀ g, vw.ownBlock = some g → ¬ ex g) (hvt : ∀ g, vt.ownBlock = some g → ¬ ex g) : Idx w xb fb lb x0 x1 x2 vw vt ws low row con nm fm lm w' :=
  { h with
    ext := (h.ext.trans e).mono (fun k hk hh => by rcases hh with hh | hh; exact hh; exact hw k hk hh)
    xblk := h.xblk.ext e hx
    fam := h.fam.ext e hr
    ownW := h.ownW.ext e hvw
    ownT := h.ownT.ext e hvt
    fmap := h.fmap.of (e.block fb h.fmap.lt hfb)
    lmap := h.lmap.of (e.block lb h.lmap.lt hlb) }
theorem Idx.alloc (h : Idx w xb fb lb x0 x1 x2 vw vt ws low row con nm fm lm wr) (o : Obj) : Idx w xb fb lb x0 x1 x2 vw vt ws low row con nm fm lm (wr.alloc o) :=
  h.extend (Ext.alloc wr o) (fun _ _ => id) id id id (fun _ _ _ _ _ => id) (fun _ _ => id) (fun _ _ => id)

theorem Idx.le (h : Idx w xb fb lb x0 x1 x2 vw vt ws low row con nm fm lm wr) : w.heap.size ≤ wr.heap.size := h.ext.size

/-- blocks of different kinds are different blocks -/
theorem Idx.far (h : Idx w xb fb lb x0 x1 x2 vw vt ws low row con nm fm lm wr) {g : Nat} {c : Array Value} {t : TypeId} (hb : Blk wr g c t) : (t ≠ 36 → g ≠ xb) ∧ g ≠ fb ∧ g ≠ lb ∧ (t ≠ 3 → ∀ k v, row k = some v → v.ownBlock ≠ some g) ∧ (t ≠ 9 → vw.ownBlock ≠ some g ∧ vt.ownBlock ≠ some g) := by
  refine ⟨fun ht => hb.ne h.xblk ht, Mp.notcells h.fmap hb, Mp.notcells h.lmap hb, fun ht k v hv hg => ?_, fun ht => ⟨fun hg => ?_, fun hg => ?_⟩⟩
  · obtain ⟨_, c2, hc2⟩ := (h.fam.own k v hv).lt hg
    exact hb.ne hc2 ht rfl
  · obtain ⟨_, c2, hc2⟩ := h.ownW.lt hg
    exact hb.ne hc2 ht rfl
  · obtain ⟨_, c2, hc2⟩ := h.ownT.lt hg
    exact hb.ne hc2 ht rfl

/-- one more at 'written' -/
theorem Idx.appW (h : Idx w xb fb lb x0 x1 x2 vw vt ws low row con nm fm lm wr) {w2 : World} {v2 : Value} {t : List UInt8} (hO : Own w2 9 v2 (ws.map encS ++ [encS t])) (hg : wr.grownBy w2 vw.ownBlock)
    (hb : ∃ g', v2.ownBlock = some g' ∧ (vw.ownBlock = some g' ∨ wr.heap.size ≤ g')) : Idx w xb fb lb x0 x1 x2 v2 vt (ws ++ [t]) low row con nm fm lm w2 := by
  have far : ∀ g, vw.ownBlock = some g → ∃ c, Blk wr g c 9 := fun g hgg => (h.ownW.lt hgg).2
  have e := Ext.grown hg
  obtain ⟨g', hg', hh⟩ := hb
  have base : Idx w xb fb lb x0 x1 x2 nilS vt [] low row con nm fm lm w2 :=
    Idx.extend (vw := nilS) (ws := []) { h with ownW := .inl ⟨rfl, rfl⟩, freshW := (fun _ hk => nomatch hk), apart := (fun _ hk => nomatch hk) } e
      (fun k hk hk' => by have := h.freshW k hk'; omega)
      (fun hk => by obtain ⟨c, hc⟩ := far _ hk; exact (h.far hc).1 (by decide) rfl)
      (fun hk => by obtain ⟨c, hc⟩ := far _ hk; exact (h.far hc).2.1 rfl)
      (fun hk => by obtain ⟨c, hc⟩ := far _ hk; exact (h.far hc).2.2.1 rfl)
      (fun k v g hv hgv hk => by obtain ⟨c, hc⟩ := far _ hk; exact (h.far hc).2.2.2.1 (by decide) k v hv hgv)
      (fun g hk => nomatch hk)
      (fun g hk hk' => h.apart g hk' hk)
  exact { base with
    ownW := (by rw [List.map_append]; exact hO)
    freshW := (fun g hgg => by
      rw [hg'] at hgg; injection hgg with hgg; subst hgg
      rcases hh with hh | hh
      · exact h.freshW _ hh
      · have := h.le; omega)
    apart := (fun g hgg ht => by
      rw [hg'] at hgg; injection hgg with hgg; subst hgg
      rcases hh with hh | hh
      · exact h.apart _ hh ht
      · have := (h.ownT.lt ht).1; omega) }

/-- one more at 'tags' -/
theorem Idx.appT (h : Idx w xb fb lb x0 x1 x2 vw vt ws low row con nm fm lm wr) {w2 : World} {v2 : Value} {t : List UInt8} (hO : Own w2 9 v2 (low.map encS ++ [encS t])) (hg : wr.grownBy w2 vt.ownBlock)
    (hb : ∃ g', v2.ownBlock = some g' ∧ (vt.ownBlock = some g' ∨ wr.heap.size ≤ g')) : Idx w xb fb lb x0 x1 x2 vw v2 ws (low ++ [t]) row con nm fm lm w2 := by
  have far : ∀ g, vt.ownBlock = some g → ∃ c, Blk wr g c 9 := fun g hgg => (h.ownT.lt hgg).2
  have e := Ext.grown hg
  obtain ⟨g', hg', hh⟩ := hb
  have base : Idx w xb fb lb x0 x1 x2 vw nilS ws [] row con nm fm lm w2 :=
    Idx.extend (vt := nilS) (low := []) { h with ownT := .inl ⟨rfl, rfl⟩, freshT := (fun _ hk => nomatch hk), apart := (fun _ _ hk => nomatch hk) } e
      (fun k hk hk' => by have := h.freshT k hk'; omega)
      (fun hk => by obtain ⟨c, hc⟩ := far _ hk; exact (h.far hc).1 (by decide) rfl)
      (fun hk => by obtain ⟨c, hc⟩ := far _ hk; exact (h.far hc).2.1 rfl)
      (fun hk => by obtain ⟨c, hc⟩ := far _ hk; exact (h.far hc).2.2.1 rfl)
      (fun k v g hv hgv hk => by obtain ⟨c, hc⟩ := far _ hk; exact (h.far hc).2.2.2.1 (by decide) k v hv hgv)
      (fun g hk hk' => h.apart g hk hk')
      (fun g hk => nomatch hk)
  exact { base with
    ownT := (by rw [List.map_append]; exact hO)
    freshT := (fun g hgg => by
      rw [hg'] at hgg; injection hgg with hgg; subst hgg
      rcases hh with hh | hh
      · exact h.freshT _ hh
      · have := h.le; omega)
    apart := (fun g hw hgg => by
      rw [hg'] at hgg; injection hgg with hgg; subst hgg
      rcases hh with hh | hh
      · exact h.apart _ hw hh
      · have := (h.ownW.lt hw).1; omega) }

/-- a store into one of the struct's slice fields -/
theorem Idx.store (h : Idx w xb fb lb x0 x1 x2 vw vt ws low row con nm fm lm wr) (y : Value) (i : Nat) :
    ∃ c, c = (#[x0, x1, x2, .map (some fb), .map (some lb)] : Array Value).setIfInBounds i y ∧ Blk (wr.setCell ⟨xb, i, none⟩ y) xb c 36 ∧ ∀ z0 z1 z2, c = #[z0, z1, z2, .map (some fb), .map (some lb)] → Idx w xb fb lb z0 z1 z2 vw vt ws low row con nm fm lm (wr.setCell ⟨xb, i, none⟩ y) := by
  refine ⟨_, rfl, h.xblk.same i y, fun z0 z1 z2 hc => ?_⟩
  have e := Ext.set wr ⟨xb, i, none⟩ y
  have far := h.far h.xblk
  exact { h with
    ext := (h.ext.trans e).mono (fun k hk hh => by rcases hh with hh | hh; exact hh; have := h.freshX; simp only at hh; omega)
    xblk := (by rw [← hc]; exact h.xblk.same i y)
    fam := h.fam.ext e (fun k v g hv hg hh => by simp only at hh; subst hh; exact far.2.2.2.1 (by decide) k v hv hg)
    ownW := h.ownW.ext e (fun g hg hh => by simp only at hh; subst hh; exact (far.2.2.2.2 (by decide)).1 hg)
    ownT := h.ownT.ext e (fun g hg hh => by simp only at hh; subst hh; exact (far.2.2.2.2 (by decide)).2 hg)
    fmap := h.fmap.of (e.block fb h.fmap.lt (fun hh => far.2.1 hh.symm))
    lmap := h.lmap.of (e.block lb h.lmap.lt (fun hh => far.2.2.1 hh.symm)) }

/-- one number more at one of the rows; the maps are told by the prover -/
theorem Idx.appR (h : Idx w xb fb lb x0 x1 x2 vw vt ws low row con nm fm lm wr) (k : Kd) (j : Nat) {ob : Obj} {w2 w3 : World} {v2 : Value} {mb : Option Nat}
    (hO : Own w2 3 v2 ((con k).map num ++ [num j])) (hg : (wr.alloc ob).grownBy w2 ((row k).getD nilS).ownBlock)
    (hb : ∃ g', v2.ownBlock = some g' ∧ (((row k).getD nilS).ownBlock = some g' ∨ (wr.alloc ob).heap.size ≤ g'))
    (hg3 : w2.grownBy w3 mb) (hmb : mb = none ∨ mb = some fb ∨ mb = some lb) {nm' : Nat} {fm' lm' : Lit → Option Value} (hf : Mp Yba.prog 9 w3 fb nm' fm') (hl : Mp Yba.prog 9 w3 lb nm' lm')
    (hfr : ∀ s, fm' (.string s) = setRow' row k v2 (.first s)) (hlr : ∀ s, lm' (.string s) = setRow' row k v2 (.later s)) :
    Idx w xb fb lb x0 x1 x2 vw vt ws low (setRow' row k v2) (setCon con k j) nm' fm' lm' w3 := by
  have ha := h.alloc ob
  have far : ∀ g, ((row k).getD nilS).ownBlock = some g → ∃ v, row k = some v ∧ v.ownBlock = some g := by
    intro g hgg
    cases hr : row k with
    | none => rw [hr] at hgg; cases hgg
    | some v => rw [hr] at hgg; exact ⟨v, rfl, hgg⟩
  have e := Ext.grown hg
  have e3 := Ext.grown hg3
  have ee := e.trans e3
  have cells : ∀ {b : Nat} {c : Array Value} {t : TypeId}, t ≠ 3 → Blk (wr.alloc ob) b c t → ¬ (((row k).getD nilS).ownBlock = some b ∨ mb = some b) := by
    intro b c t ht hB
    rintro (hh | hh)
    · obtain ⟨v, hv, hgv⟩ := far _ hh
      exact (ha.far hB).2.2.2.1 ht k v hv hgv
    · rcases hmb with hm | hm | hm
      · rw [hm] at hh; cases hh
      · rw [hm] at hh; injection hh with hh; exact (ha.far hB).2.1 hh.symm
      · rw [hm] at hh; injection hh with hh; exact (ha.far hB).2.2.1 hh.symm
  have F2 := h.fam.app h.le k j hO hg hb
  refine { h with ext := ?_, xblk := ha.xblk.ext ee (cells (by decide) ha.xblk), fam := ?_, ownW := ?_, ownT := ?_, fmap := hf, lmap := hl, frow := hfr, lrow := hlr }
  · refine (ha.ext.trans ee).mono (fun g hgw hh => ?_)
    rcases hh with hh | hh | hh
    · exact hh
    · obtain ⟨v, hv, hgv⟩ := far _ hh
      have := h.fam.fresh k v g hv hgv; omega
    · have h1 := h.freshF
      have h2 := h.freshL
      rcases hmb with hm | hm | hm
      · rw [hm] at hh; cases hh
      · rw [hm] at hh; injection hh with hh; omega
      · rw [hm] at hh; injection hh with hh; omega
  · refine F2.ext e3 (fun x v g hv hgv hh => ?_)
    obtain ⟨_, c, hc⟩ := (F2.own x v hv).lt hgv
    rcases hmb with hm | hm | hm
    · rw [hm] at hh; cases hh
    · rw [hm] at hh; injection hh with hh
      subst hh
      have hM2 : Mp Yba.prog 9 w2 fb nm fm := ha.fmap.of (e.block fb ha.fmap.lt (fun h1 => by
        obtain ⟨v1, hv1, hg1⟩ := far _ h1
        obtain ⟨_, c1, hc1⟩ := (ha.fam.own k v1 hv1).lt hg1
        exact (ha.far hc1).2.1 rfl))
      exact Mp.notcells hM2 hc rfl
    · rw [hm] at hh; injection hh with hh
      subst hh
      have hM2 : Mp Yba.prog 9 w2 lb nm lm := ha.lmap.of (e.block lb ha.lmap.lt (fun h1 => by
        obtain ⟨v1, hv1, hg1⟩ := far _ h1
        obtain ⟨_, c1, hc1⟩ := (ha.fam.own k v1 hv1).lt hg1
        exact (ha.far hc1).2.2.1 rfl))
      exact Mp.notcells hM2 hc rfl
  · refine ha.ownW.ext ee (fun g hgw => ?_)
    obtain ⟨_, c, hc⟩ := ha.ownW.lt hgw
    exact cells (by decide) hc
  · refine ha.ownT.ext ee (fun g hgw => ?_)
    obtain ⟨_, c, hc⟩ := ha.ownT.lt hgw
    exact cells (by decide) hc
end
end Go.Proofs.YbulkdtxaA
