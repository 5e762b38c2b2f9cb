import Derived.Test.YbulkdtuwBW3
namespace Go.Proofs.YbulkdtuwB
open Go.RowKit Go.Sort Go.Lib

/-- the memory while the runs are built -/
structure Mem (w : World) (B kb : Nat) (kc : Array Value) (bx : Nat) (vs vw : Value) (S W : List Rn) (wr : World) : Prop where
  below : Below B w wr
  le : B ≤ wr.heap.size
  keys : Blk wr kb kc 9
  Bbx : B ≤ bx
  box : Blk wr bx #[vs] 32
  ownS : Own wr 26 vs (S.map Rn.hd)
  ownW : Own wr 26 vw (W.map Rn.hd)
  Bs : ∀ g, vs.ownBlock = some g → B ≤ g
  Bw : ∀ g, vw.ownBlock = some g → B ≤ g
  apart : ∀ g, vs.ownBlock = some g → vw.ownBlock ≠ some g
  okS : ∀ y ∈ S, RunOk wr y ∧ B ≤ y.g
  okW : ∀ y ∈ W, RunOk wr y
  nodup : (S.map Rn.g).Nodup
  apartR : ∀ x ∈ S, ∀ y ∈ W, x.g ≠ y.g

theorem RunOk.blk {w : World} {x : Rn} (h : RunOk w x) : ∃ c, Blk w x.g c 9 := by
  obtain ⟨_, _, _, _, c, h, _⟩ := h
  exact ⟨c, h⟩
theorem RunOk.ext {ex : Nat → Prop} {w w' : World} {x : Rn} (h : RunOk w x) (k : Ext ex w w') (hn : ¬ ex x.g) : RunOk w' x := by
  obtain ⟨c, hc⟩ := h.blk
  exact h.of (k.block _ hc.lt hn)

theorem Mem.ext {w : World} {B kb : Nat} {kc : Array Value} {bx : Nat} {vs vw : Value} {S W : List Rn} {wr w' : World} (h : Mem w B kb kc bx vs vw S W wr) (k : Ext (fun _ => False) wr w') : Mem w B kb kc bx vs vw S W w' :=
  { below := Ext.below h.below k h.le (fun _ _ e => e.elim)
    le := Nat.le_trans h.le k.size
    keys := h.keys.ext k id
    Bbx := h.Bbx
    box := h.box.ext k id
    ownS := h.ownS.ext k (fun _ _ => id)
    ownW := h.ownW.ext k (fun _ _ => id)
    Bs := h.Bs
    Bw := h.Bw
    apart := h.apart
    okS := fun y hy => ⟨(h.okS y hy).1.ext k id, (h.okS y hy).2⟩
    okW := fun y hy => (h.okW y hy).ext k id
    nodup := h.nodup
    apartR := h.apartR }

theorem Mem.lt9 {w : World} {B kb : Nat} {kc : Array Value} {bx : Nat} {vs vw : Value} {S W : List Rn} {wr : World} (h : Mem w B kb kc bx vs vw S W wr) : (∀ y ∈ S, y.g < wr.heap.size) ∧ (∀ y ∈ W, y.g < wr.heap.size) := by
  refine ⟨fun y hy => ?_, fun y hy => ?_⟩
  · obtain ⟨c, hc⟩ := (h.okS y hy).1.blk; exact hc.lt
  · obtain ⟨c, hc⟩ := (h.okW y hy).blk; exact hc.lt

theorem Mem.box3 {w : World} {B kb : Nat} {kc : Array Value} {bx : Nat} {vs vw : Value} {S W : List Rn} {wr : World} (h : Mem w B kb kc bx vs vw S W wr) {w2 w3 : World} (hE : Ext (fun _ => False) wr w2) {ob : Obj} (hgr : (w2.alloc ob).grownBy w3 vs.ownBlock) : Blk w3 bx #[vs] 32 := by
  have m2 := (h.ext hE).ext (Ext.alloc w2 ob)
  exact m2.box.ext (Ext.grown hgr) (fun h1 => by
    obtain ⟨_, c2, hc2⟩ := m2.ownS.lt h1
    exact m2.box.ne hc2 (by decide) rfl)

/-- a run more at s -/
theorem Mem.addS {w : World} {B kb : Nat} {kc : Array Value} {bx : Nat} {vs vw : Value} {S W : List Rn} {wr : World} (h : Mem w B kb kc bx vs vw S W wr) {w2 w3 : World} (hE : Ext (fun _ => False) wr w2) (x : Rn) (hx : wr.heap.size ≤ x.g) (hok : RunOk w2 x)
    {ob : Obj} {vs' : Value} (hown : Own w3 26 vs' ((S ++ [x]).map Rn.hd)) (hgr : (w2.alloc ob).grownBy w3 vs.ownBlock) (hb : ∃ g', vs'.ownBlock = some g' ∧ (vs.ownBlock = some g' ∨ (w2.alloc ob).heap.size ≤ g')) :
    Mem w B kb kc bx vs' vw (S ++ [x]) W (w3.setCell ⟨bx, 0, none⟩ vs') := by
  have m2 := (h.ext hE).ext (Ext.alloc w2 ob)
  have hxok := hok.ext (Ext.alloc w2 ob) id
  have e3 := Ext.grown hgr
  have e4 := Ext.set w3 ⟨bx, 0, none⟩ vs'
  have e := e3.trans e4
  have hsz2 := hE.size
  have t9 : ∀ (y : Rn), RunOk (w2.alloc ob) y → ¬ (vs.ownBlock = some y.g ∨ y.g = bx) := by
    intro y hy
    obtain ⟨c, hc⟩ := hy.blk
    rintro (h1 | h1)
    · obtain ⟨_, c2, hc2⟩ := m2.ownS.lt h1
      exact hc.ne hc2 (by decide) rfl
    · exact hc.ne m2.box (by decide) h1
  have hbx3 : Blk w3 bx #[vs] 32 := m2.box.ext e3 (fun h1 => by
    obtain ⟨_, c2, hc2⟩ := m2.ownS.lt h1
    exact m2.box.ne hc2 (by decide) rfl)
  have hks : ¬ (vs.ownBlock = some kb ∨ kb = bx) := by
    rintro (h1 | h1)
    · obtain ⟨_, c2, hc2⟩ := m2.ownS.lt h1
      exact m2.keys.ne hc2 (by decide) rfl
    · exact m2.keys.ne m2.box (by decide) h1
  have hw : ∀ g, vw.ownBlock = some g → ¬ (vs.ownBlock = some g ∨ g = bx) := by
    intro g hg
    rintro (h1 | h1)
    · exact h.apart g h1 hg
    · obtain ⟨_, c2, hc2⟩ := m2.ownW.lt hg
      exact hc2.ne m2.box (by decide) h1
  have hsx : ∀ y ∈ S, y.g ≠ x.g := fun y hy e => by have := h.lt9.1 y hy; omega
  obtain ⟨g', hg', hgg⟩ := hb
  have hBg : B ≤ g' := by
    rcases hgg with h1 | h1
    · exact h.Bs g' h1
    · have := m2.le; omega
  refine { below := Ext.below m2.below e m2.le ?_, le := Nat.le_trans m2.le e.size, keys := m2.keys.ext e hks, Bbx := h.Bbx, box := ?_, ownS := ?_, ownW := m2.ownW.ext e hw, Bs := ?_, Bw := h.Bw, apart := ?_, okS := ?_, okW := ?_, nodup := ?_, apartR := ?_ }
  · rintro k _ (h1 | h1)
    · exact h.Bs k h1
    · have := h.Bbx; simp only at h1; omega
  · exact hbx3.same 0 vs'
  · refine hown.ext e4 (fun g hg => ?_)
    obtain ⟨_, c, hc⟩ := hown.lt hg
    exact hc.ne hbx3 (by decide)
  · intro g hg; rw [hg'] at hg; injection hg with hg; omega
  · intro g hg hv
    rw [hg'] at hg; injection hg with hg; subst hg
    rcases hgg with h1 | h1
    · exact h.apart _ h1 hv
    · have := (m2.ownW.lt hv).1; omega
  · intro y hy
    rcases List.mem_append.1 hy with hy | hy
    · exact ⟨(m2.okS y hy).1.ext e (t9 y (m2.okS y hy).1), (m2.okS y hy).2⟩
    · obtain rfl : y = x := by simpa using hy
      exact ⟨hxok.ext e (t9 _ hxok), by have := h.le; omega⟩
  · intro y hy
    exact (m2.okW y hy).ext e (t9 y (m2.okW y hy))
  · rw [List.map_append, List.nodup_append]
    refine ⟨h.nodup, by simp, ?_⟩
    intro a ha b hb
    obtain ⟨y, hy, rfl⟩ := List.mem_map.1 ha
    obtain rfl : b = x.g := by simpa using hb
    exact hsx y hy
  · intro y hy z hz
    rcases List.mem_append.1 hy with hy | hy
    · exact h.apartR y hy z hz
    · obtain rfl : y = x := by simpa using hy
      intro e; have := h.lt9.2 z hz; omega

/-- a run more at want -/
theorem Mem.addW {w : World} {B kb : Nat} {kc : Array Value} {bx : Nat} {vs vw : Value} {S W : List Rn} {wr w3 : World} (h : Mem w B kb kc bx vs vw S W wr) (x : Rn) (hx : ∀ y ∈ S, y.g ≠ x.g) (hok : RunOk wr x)
    {ob : Obj} {vw' : Value} (hown : Own w3 26 vw' ((W ++ [x]).map Rn.hd)) (hgr : (wr.alloc ob).grownBy w3 vw.ownBlock) (hb : ∃ g', vw'.ownBlock = some g' ∧ (vw.ownBlock = some g' ∨ (wr.alloc ob).heap.size ≤ g')) :
    Mem w B kb kc bx vs vw' S (W ++ [x]) w3 := by
  have m2 := h.ext (Ext.alloc wr ob)
  have hxok := hok.ext (Ext.alloc wr ob) id
  have e := Ext.grown hgr
  have t9 : ∀ (y : Rn), RunOk (wr.alloc ob) y → ¬ (vw.ownBlock = some y.g) := by
    intro y hy
    obtain ⟨c, hc⟩ := hy.blk
    intro h1
    obtain ⟨_, c2, hc2⟩ := m2.ownW.lt h1
    exact hc.ne hc2 (by decide) rfl
  have hks : ¬ (vw.ownBlock = some kb) := by
    intro h1
    obtain ⟨_, c2, hc2⟩ := m2.ownW.lt h1
    exact m2.keys.ne hc2 (by decide) rfl
  have hbx : ¬ (vw.ownBlock = some bx) := by
    intro h1
    obtain ⟨_, c2, hc2⟩ := m2.ownW.lt h1
    exact m2.box.ne hc2 (by decide) rfl
  obtain ⟨g', hg', hgg⟩ := hb
  refine { below := Ext.below m2.below e m2.le (fun k _ hk => h.Bw k hk), le := Nat.le_trans m2.le e.size, keys := m2.keys.ext e hks, Bbx := h.Bbx, box := m2.box.ext e hbx, ownS := m2.ownS.ext e (fun g hg => h.apart g hg), ownW := hown, Bs := h.Bs, Bw := ?_, apart := ?_, okS := ?_, okW := ?_, nodup := h.nodup, apartR := ?_ }
  · intro g hg; rw [hg'] at hg; injection hg with hg; subst hg
    rcases hgg with h1 | h1
    · exact h.Bw _ h1
    · have := m2.le; omega
  · intro g hg hv
    rw [hg'] at hv; injection hv with hv; subst hv
    rcases hgg with h1 | h1
    · exact h.apart _ hg h1
    · have := (m2.ownS.lt hg).1; omega
  · intro y hy
    exact ⟨(m2.okS y hy).1.ext e (t9 y (m2.okS y hy).1), (m2.okS y hy).2⟩
  · intro y hy
    rcases List.mem_append.1 hy with hy | hy
    · exact (m2.okW y hy).ext e (t9 y (m2.okW y hy))
    · obtain rfl : y = x := by simpa using hy
      exact hxok.ext e (t9 _ hxok)
  · intro y hy z hz
    rcases List.mem_append.1 hz with hz | hz
    · exact h.apartR y hy z hz
    · obtain rfl : z = x := by simpa using hz
      exact hx y hy

/-- the plain facts while the runs are built -/
structure Pl (K : List (List UInt8)) (key : List UInt8) (pos : Nat) (S W : List Rn) : Prop where
  flat : (S.map Rn.run).flatten = K.take pos
  want : W.map Rn.run = wantOf key (S.map Rn.run)
  lenS : S.length ≤ pos
  lenW : W.length ≤ pos
theorem Pl.none {K : List (List UInt8)} {key : List UInt8} {pos e : Nat} {S W : List Rn} (h : Pl K key pos S W) (hpe : pos < e) (x : Rn) (hx : x.run = (K.take e).drop pos) (hf : x.run.filter (fun s => decide (s ≠ key)) = []) : Pl K key e (S ++ [x]) W := by
  refine ⟨?_, ?_, by have := h.lenS; simp; omega, by have := h.lenW; omega⟩
  · rw [List.map_append, List.flatten_append, h.flat, List.map_cons, List.map_nil, List.flatten_singleton, hx]
    have := List.take_append_drop pos (K.take e)
    rw [List.take_take, Nat.min_eq_left (by omega)] at this
    exact this
  · rw [List.map_append, wantOf_append, ← h.want]
    simp [wantOf]
    simpa using hf
theorem Pl.some {K : List (List UInt8)} {key : List UInt8} {pos e : Nat} {S W : List Rn} (h : Pl K key pos S W) (hpe : pos < e) (x y : Rn) (hx : x.run = (K.take e).drop pos) (hy : y.run = x.run.filter (fun s => decide (s ≠ key))) (hf : y.run ≠ []) : Pl K key e (S ++ [x]) (W ++ [y]) := by
  refine ⟨?_, ?_, by have := h.lenS; simp; omega, by have := h.lenW; simp; omega⟩
  · rw [List.map_append, List.flatten_append, h.flat, List.map_cons, List.map_nil, List.flatten_singleton, hx]
    have := List.take_append_drop pos (K.take e)
    rw [List.take_take, Nat.min_eq_left (by omega)] at this
    exact this
  · rw [List.map_append, List.map_append, wantOf_append, ← h.want]
    congr 1
    unfold wantOf
    simp only [List.map_cons, List.map_nil, ← hy, List.filter_cons, List.filter_nil]
    rw [if_pos (decide_eq_true hf)]
end Go.Proofs.YbulkdtuwB
