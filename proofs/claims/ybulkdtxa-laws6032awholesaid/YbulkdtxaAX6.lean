import Derived.Test.YbulkdtxaAX5
import Derived.Test.YbulkdtxaARL
namespace Go.Proofs.YbulkdtxaA
open Go.RowKit RawMap

/-- one number more at one row -/
theorem Fam.app0 {w wr w2 : World} {row : Kd → Option Value} {con : Kd → List Nat} (h : Fam w row con wr) (hw : w.heap.size ≤ wr.heap.size) (k : Kd) (j : Nat) {v2 : Value}
    (hO : Own w2 3 v2 ((con k).map num ++ [num j])) (hg : wr.grownBy w2 ((row k).getD nilS).ownBlock) (hb : ∃ g', v2.ownBlock = some g' ∧ (((row k).getD nilS).ownBlock = some g' ∨ wr.heap.size ≤ g')) :
    Fam w (setRow' row k v2) (setCon con k j) w2 := by
  have hold : ∀ g, ((row k).getD nilS).ownBlock = some g → ∃ v, row k = some v ∧ v.ownBlock = some g := by
    intro g hgg
    cases hr : row k with
    | none => rw [hr] at hgg; cases hgg
    | some v => rw [hr] at hgg; exact ⟨v, rfl, hgg⟩
  have h2 := h
  obtain ⟨g', hg', hh⟩ := hb
  have hnew : ∀ x v g, x ≠ k → row x = some v → v.ownBlock = some g → g ≠ g' := by
    intro x v g hx hv hgv e
    subst e
    rcases hh with hh | hh
    · obtain ⟨v0, h0, h1⟩ := hold _ hh
      exact hx (h.apart x k v v0 g hv h0 hgv h1)
    · have := h.lt hv hgv
      omega
  refine ⟨fun x v hv => ?_, fun x v g hv hgv => ?_, fun x x' v v' g hv hv' hgv hgv' => ?_, fun x hx => ?_, fun x v hv => ?_⟩
  · unfold setRow' at hv
    unfold setCon
    by_cases hx : x = k
    · subst hx
      simp at hv
      subst hv
      simpa using hO
    · rw [if_neg hx] at hv
      rw [if_neg hx]
      refine (h2.own x v hv).ext (Ext.grown hg) (fun g hgv e => ?_)
      obtain ⟨v0, h0, h1⟩ := hold _ e
      exact hx (h.apart x k v v0 g hv h0 hgv h1)
  · unfold setRow' at hv
    by_cases hx : x = k
    · subst hx
      simp at hv
      subst hv
      rw [hg'] at hgv; injection hgv with hgv; subst hgv
      rcases hh with hh | hh
      · obtain ⟨v0, h0, h1⟩ := hold _ hh
        exact h.fresh _ v0 _ h0 h1
      · omega
    · rw [if_neg hx] at hv
      exact h.fresh x v g hv hgv
  · unfold setRow' at hv hv'
    by_cases hx : x = k
    · by_cases hx' : x' = k
      · rw [hx, hx']
      · rw [if_neg hx'] at hv'
        rw [if_pos hx] at hv
        injection hv with hv; subst hv
        rw [hg'] at hgv; injection hgv with hgv
        exact absurd hgv.symm (hnew x' v' g hx' hv' hgv')
    · rw [if_neg hx] at hv
      by_cases hx' : x' = k
      · rw [if_pos hx'] at hv'
        injection hv' with hv'; subst hv'
        rw [hg'] at hgv'; injection hgv' with hgv'
        exact absurd hgv'.symm (hnew x v g hx hv hgv)
      · rw [if_neg hx'] at hv'
        exact h.apart x x' v v' g hv hv' hgv hgv'
  · unfold setRow' at hx
    by_cases hxk : x = k
    · rw [if_pos hxk] at hx; cases hx
    · rw [if_neg hxk] at hx
      unfold setCon
      rw [if_neg hxk]
      exact h.none x hx
  · unfold setRow' at hv
    unfold setCon
    by_cases hxk : x = k
    · rw [if_pos hxk]; simp
    · rw [if_neg hxk] at hv
      rw [if_neg hxk]
      exact h.full x v hv

section
variable {w : World} {xb fb lb : Nat} {x0 x1 x2 vw vt : Value} {ws low : List (List UInt8)} {row : Kd → Option Value} {con : Kd → List Nat} {nm : Nat} {fm lm : Lit → Option Value} {wr : World}

/-- one number more at one of the rows; the maps are told by the prover -/
theorem Idx.appR0 (h : Idx w xb fb lb x0 x1 x2 vw vt ws low row con nm fm lm wr) (k : Kd) (j : Nat) {w2 w3 : World} {v2 : Value} {mb : Option Nat}
    (hO : Own w2 3 v2 ((con k).map num ++ [num j])) (hg : wr.grownBy w2 ((row k).getD nilS).ownBlock)
    (hb : ∃ g', v2.ownBlock = some g' ∧ (((row k).getD nilS).ownBlock = some g' ∨ wr.heap.size ≤ g'))
    (hg3 : w2.grownBy w3 mb) (hmb : mb = none ∨ mb = some fb ∨ mb = some lb) {nm' : Nat} {fm' lm' : Lit → Option Value} (hf : Mp Yba.prog 9 w3 fb nm' fm') (hl : Mp Yba.prog 9 w3 lb nm' lm')
    (hfr : ∀ s, fm' (.string s) = setRow' row k v2 (.first s)) (hlr : ∀ s, lm' (.string s) = setRow' row k v2 (.later s)) :
    Idx w xb fb lb x0 x1 x2 vw vt ws low (setRow' row k v2) (setCon con k j) nm' fm' lm' w3 := by
  have ha := h
  have far : ∀ g, ((row k).getD nilS).ownBlock = some g → ∃ v, row k = some v ∧ v.ownBlock = some g := by
    intro g hgg
    cases hr : row k with
    | none => rw [hr] at hgg; cases hgg
    | some v => rw [hr] at hgg; exact ⟨v, rfl, hgg⟩
  have e := Ext.grown hg
  have e3 := Ext.grown hg3
  have ee := e.trans e3
  have cells : ∀ {b : Nat} {c : Array Value} {t : TypeId}, t ≠ 3 → Blk wr b c t → ¬ (((row k).getD nilS).ownBlock = some b ∨ mb = some b) := by
    intro b c t ht hB
    rintro (hh | hh)
    · obtain ⟨v, hv, hgv⟩ := far _ hh
      exact (ha.far hB).2.2.2.1 ht k v hv hgv
    · rcases hmb with hm | hm | hm
      · rw [hm] at hh; cases hh
      · rw [hm] at hh; injection hh with hh; exact (ha.far hB).2.1 hh.symm
      · rw [hm] at hh; injection hh with hh; exact (ha.far hB).2.2.1 hh.symm
  have F2 := h.fam.app0 h.le k j hO hg hb
  refine { h with ext := ?_, xblk := ha.xblk.ext ee (cells (by decide) ha.xblk), fam := ?_, ownW := ?_, ownT := ?_, fmap := hf, lmap := hl, frow := hfr, lrow := hlr }
  · refine (ha.ext.trans ee).mono (fun g hgw hh => ?_)
    rcases hh with hh | hh | hh
    · exact hh
    · obtain ⟨v, hv, hgv⟩ := far _ hh
      have := h.fam.fresh k v g hv hgv; omega
    · have h1 := h.freshF
      have h2 := h.freshL
      rcases hmb with hm | hm | hm
      · rw [hm] at hh; cases hh
      · rw [hm] at hh; injection hh with hh; omega
      · rw [hm] at hh; injection hh with hh; omega
  · refine F2.ext e3 (fun x v g hv hgv hh => ?_)
    obtain ⟨_, c, hc⟩ := (F2.own x v hv).lt hgv
    rcases hmb with hm | hm | hm
    · rw [hm] at hh; cases hh
    · rw [hm] at hh; injection hh with hh
      subst hh
      have hM2 : Mp Yba.prog 9 w2 fb nm fm := ha.fmap.of (e.block fb ha.fmap.lt (fun h1 => by
        obtain ⟨v1, hv1, hg1⟩ := far _ h1
        obtain ⟨_, c1, hc1⟩ := (ha.fam.own k v1 hv1).lt hg1
        exact (ha.far hc1).2.1 rfl))
      exact Mp.notcells hM2 hc rfl
    · rw [hm] at hh; injection hh with hh
      subst hh
      have hM2 : Mp Yba.prog 9 w2 lb nm lm := ha.lmap.of (e.block lb ha.lmap.lt (fun h1 => by
        obtain ⟨v1, hv1, hg1⟩ := far _ h1
        obtain ⟨_, c1, hc1⟩ := (ha.fam.own k v1 hv1).lt hg1
        exact (ha.far hc1).2.2.1 rfl))
      exact Mp.notcells hM2 hc rfl
  · refine ha.ownW.ext ee (fun g hgw => ?_)
    obtain ⟨_, c, hc⟩ := ha.ownW.lt hgw
    exact cells (by decide) hc
  · refine ha.ownT.ext ee (fun g hgw => ?_)
    obtain ⟨_, c, hc⟩ := ha.ownT.lt hgw
    exact cells (by decide) hc

/-- a new element, laid in a block of its own, that waits for its append -/
def Pn (vw vt : Value) (row : Kd → Option Value) (h : Nat) (u : Value) (t : TypeId) (wr : World) : Prop := Blk wr h #[u] t ∧ vw.ownBlock ≠ some h ∧ vt.ownBlock ≠ some h ∧ ∀ k v, row k = some v → v.ownBlock ≠ some h
theorem Pn.new (h : Idx w xb fb lb x0 x1 x2 vw vt ws low row con nm fm lm wr) (u : Value) (t : TypeId) : Pn vw vt row wr.heap.size u t (wr.alloc (.cells #[u] t)) :=
  ⟨Blk.new _ _ _, fun e => by have := (h.ownW.lt e).1; omega, fun e => by have := (h.ownT.lt e).1; omega, fun k v hv e => by have := ((h.fam.own k v hv).lt e).1; omega⟩
theorem Pn.alloc {h : Nat} {u : Value} {t : TypeId} (p : Pn vw vt row h u t wr) (o : Obj) : Pn vw vt row h u t (wr.alloc o) := ⟨p.1.alloc o, p.2⟩
theorem Pn.drew {h : Nat} {u : Value} {t : TypeId} (p : Pn vw vt row h u t wr) : Pn vw vt row h u t wr.drew := p
theorem Pn.cell {h : Nat} {u : Value} {t : TypeId} (p : Pn vw vt row h u t wr) : wr.cell? ⟨h, 0, none⟩ = some u := p.1.cell 0
theorem new_ne {v v2 : Value} {h : Nat} (hb : ∃ g', v2.ownBlock = some g' ∧ (v.ownBlock = some g' ∨ wr.heap.size ≤ g')) (hv : v.ownBlock ≠ some h) (hl : h < wr.heap.size) : v2.ownBlock ≠ some h := by
  obtain ⟨g', h1, h2⟩ := hb
  intro e
  rw [h1] at e; injection e with e; subst e
  rcases h2 with h2 | h2
  · exact hv h2
  · omega
theorem Pn.appW {h : Nat} {u : Value} {t : TypeId} (p : Pn vw vt row h u t wr) {w2 : World} {v2 : Value} (hg : wr.grownBy w2 vw.ownBlock) (hb : ∃ g', v2.ownBlock = some g' ∧ (vw.ownBlock = some g' ∨ wr.heap.size ≤ g')) : Pn v2 vt row h u t w2 :=
  ⟨p.1.ext (Ext.grown hg) p.2.1, new_ne hb p.2.1 p.1.lt, p.2.2⟩
theorem Pn.appT {h : Nat} {u : Value} {t : TypeId} (p : Pn vw vt row h u t wr) {w2 : World} {v2 : Value} (hg : wr.grownBy w2 vt.ownBlock) (hb : ∃ g', v2.ownBlock = some g' ∧ (vt.ownBlock = some g' ∨ wr.heap.size ≤ g')) : Pn vw v2 row h u t w2 :=
  ⟨p.1.ext (Ext.grown hg) p.2.2.1, p.2.1, new_ne hb p.2.2.1 p.1.lt, p.2.2.2⟩
theorem Idx.appAll (h : Idx w xb fb lb x0 x1 x2 vw vt ws low row con nm fm lm wr) (j : Nat) {w2 : World} {v2 : Value} (hO : Own w2 3 v2 ((con .all).map num ++ [num j])) (hg : wr.grownBy w2 ((row .all).getD nilS).ownBlock)
    (hb : ∃ g', v2.ownBlock = some g' ∧ (((row .all).getD nilS).ownBlock = some g' ∨ wr.heap.size ≤ g')) : Idx w xb fb lb x0 x1 x2 vw vt ws low (setRow' row .all v2) (setCon con .all j) nm fm lm w2 := by
  have key : ∀ {b : Nat} {n : Nat} {f : Lit → Option Value}, Mp Yba.prog 9 wr b n f → Mp Yba.prog 9 w2 b n f := by
    intro b n f hm
    refine hm.of ((Ext.grown hg).block b hm.lt (fun e => ?_))
    cases hr : row .all with
    | none => rw [hr] at e; cases e
    | some v =>
      rw [hr] at e
      obtain ⟨_, c, hc⟩ := (h.fam.own .all v hr).lt e
      exact Mp.notcells hm hc rfl
  exact h.appR0 .all j hO hg hb (mb := none) ⟨rfl, rfl, rfl, Nat.le_refl _, fun _ _ _ => rfl⟩ (.inl rfl) (key h.fmap) (key h.lmap) (fun s => h.frow s) (fun s => h.lrow s)
/-- what another map keeps while a row of cells grows -/
theorem Mp.grown {w2 : World} {b n : Nat} {f : Lit → Option Value} {g : Option Nat} (hm : Mp Yba.prog 9 wr b n f) (hg : wr.grownBy w2 g) (hc : ∀ k, g = some k → ∃ c t, Blk wr k c t) : Mp Yba.prog 9 w2 b n f :=
  hm.of ((Ext.grown hg).block b hm.lt (fun e => by obtain ⟨c, t, hc⟩ := hc _ e; exact Mp.notcells hm hc rfl))
theorem own_cells {e : TypeId} {v : Value} {xs : List Value} (h : Own wr e v xs) : ∀ k, v.ownBlock = some k → ∃ c t, Blk wr k c t := fun k hk => by obtain ⟨_, c, hc⟩ := h.lt hk; exact ⟨c, e, hc⟩
theorem Mp.set {b n : Nat} {f : Lit → Option Value} (hm : Mp Yba.prog 9 wr b n f) {g : Nat} {c : Array Value} {t : TypeId} (hc : Blk wr g c t) (i : Nat) (v : Value) : Mp Yba.prog 9 (wr.setCell ⟨g, i, none⟩ v) b n f :=
  hm.of ((Ext.set wr ⟨g, i, none⟩ v).block b hm.lt (fun e => Mp.notcells hm hc e.symm))
theorem Mp.alloc' {b n : Nat} {f : Lit → Option Value} (hm : Mp Yba.prog 9 wr b n f) (o : Obj) : Mp Yba.prog 9 (wr.alloc o) b n f := hm.of (Below.heap_alloc _ _ _ hm.lt)

/-- x.first[s] = append(x.first[s], j): the map's part -/
theorem Idx.putF (h : Idx w xb fb lb x0 x1 x2 vw vt ws low row con nm fm lm wr) (s : List UInt8) (hs : s.length ≤ 2097152) (j : Nat) (hnm : nm < maxLen) {ob : Obj} {w2 : World} {v2 : Value} (hO : Own w2 3 v2 ((con (.first s)).map num ++ [num j]))
    (hg : (wr.alloc ob).grownBy w2 ((row (.first s)).getD nilS).ownBlock) (hb : ∃ g', v2.ownBlock = some g' ∧ (((row (.first s)).getD nilS).ownBlock = some g' ∨ (wr.alloc ob).heap.size ≤ g')) :
    ∃ w3, (Instr.mapUpdate 34 (.map (some fb)) (.string (str s)) v2).run Yba.prog w2 = .ok () w3 ∧ (∃ fm' lm', Idx w xb fb lb x0 x1 x2 vw vt ws low (setRow' row (.first s) v2) (setCon con (.first s) j) (nm + 1) fm' lm' w3) ∧ w2.grownBy w3 (some fb) := by
  have ha := h.alloc ob
  have hc := own_cells (ha.fam.ownD (.first s))
  have m1 := Mp.grown ha.fmap hg hc
  have m2 := Mp.grown ha.lmap hg hc
  obtain ⟨w3, hrun, hp, hg3⟩ := m1.put keyed9 Yba.underlying34 hnm (key9 s hs) (val := v2)
  refine ⟨w3, hrun, ⟨_, lm, h.appR (.first s) j hO hg hb hg3 (.inr (.inl rfl)) hp ((m2.of ((Ext.grown hg3).block lb m2.lt (fun e => by injection e with e; exact h.fl e))).mono (by omega)) (fun s' => ?_) (fun s' => ?_)⟩, hg3⟩
  · by_cases hss : s' = s
    · subst hss
      rw [upd_same]; simp [setRow']
    · rw [upd_other _ _ (fun e => hss (by injection e)), h.frow]
      simp [setRow', hss]
  · rw [h.lrow]; simp [setRow']
theorem Idx.putL (h : Idx w xb fb lb x0 x1 x2 vw vt ws low row con nm fm lm wr) (s : List UInt8) (hs : s.length ≤ 2097152) (j : Nat) (hnm : nm < maxLen) {ob : Obj} {w2 : World} {v2 : Value} (hO : Own w2 3 v2 ((con (.later s)).map num ++ [num j]))
    (hg : (wr.alloc ob).grownBy w2 ((row (.later s)).getD nilS).ownBlock) (hb : ∃ g', v2.ownBlock = some g' ∧ (((row (.later s)).getD nilS).ownBlock = some g' ∨ (wr.alloc ob).heap.size ≤ g')) :
    ∃ w3, (Instr.mapUpdate 34 (.map (some lb)) (.string (str s)) v2).run Yba.prog w2 = .ok () w3 ∧ (∃ fm' lm', Idx w xb fb lb x0 x1 x2 vw vt ws low (setRow' row (.later s) v2) (setCon con (.later s) j) (nm + 1) fm' lm' w3) ∧ w2.grownBy w3 (some lb) := by
  have ha := h.alloc ob
  have hc := own_cells (ha.fam.ownD (.later s))
  have m1 := Mp.grown ha.fmap hg hc
  have m2 := Mp.grown ha.lmap hg hc
  obtain ⟨w3, hrun, hp, hg3⟩ := m2.put keyed9 Yba.underlying34 hnm (key9 s hs) (val := v2)
  refine ⟨w3, hrun, ⟨fm, _, h.appR (.later s) j hO hg hb hg3 (.inr (.inr rfl)) ((m1.of ((Ext.grown hg3).block fb m1.lt (fun e => by injection e with e; exact h.fl e.symm))).mono (by omega)) hp (fun s' => ?_) (fun s' => ?_)⟩, hg3⟩
  · rw [h.frow]; simp [setRow']
  · by_cases hss : s' = s
    · subst hss
      rw [upd_same]; simp [setRow']
    · rw [upd_other _ _ (fun e => hss (by injection e)), h.lrow]
      simp [setRow', hss]
/-- the lookups, at whatever world behind the index -/
theorem Idx.lookF (h : Idx w xb fb lb x0 x1 x2 vw vt ws low row con nm fm lm wr) (s : List UInt8) (hs : s.length ≤ 2097152) : (Instr.lookup 34 (.map (some fb)) (.string (str s)) false).run Yba.prog wr = .ok ((row (.first s)).getD nilS) wr := by
  rw [← h.frow]
  exact Mp.look h.fmap keyed9 Yba.underlying34 (Yba.zeroValue28 _) (key9 _ hs)
theorem Idx.lookL (h : Idx w xb fb lb x0 x1 x2 vw vt ws low row con nm fm lm wr) (s : List UInt8) (hs : s.length ≤ 2097152) : (Instr.lookup 34 (.map (some lb)) (.string (str s)) false).run Yba.prog wr = .ok ((row (.later s)).getD nilS) wr := by
  rw [← h.lrow]
  exact Mp.look h.lmap keyed9 Yba.underlying34 (Yba.zeroValue28 _) (key9 _ hs)
theorem Idx.drew (h : Idx w xb fb lb x0 x1 x2 vw vt ws low row con nm fm lm wr) : Idx w xb fb lb x0 x1 x2 vw vt ws low row con nm fm lm wr.drew :=
  h.extend (w' := wr.drew) (Ext.drewN wr 1) (fun _ _ => id) id id id (fun _ _ _ _ _ => id) (fun _ _ => id) (fun _ _ => id)
end
end Go.Proofs.YbulkdtxaA
