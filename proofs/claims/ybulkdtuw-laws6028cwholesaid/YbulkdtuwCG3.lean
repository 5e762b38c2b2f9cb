import Derived.Test.YbulkdtuwCE1
namespace Go.Proofs.YbulkdtuwC
open Go.RowKit Go.Proofs.YbulkdtuwB RawMap

section
variable {X : Nat → Array Value → TypeId → Prop} {w0 : World} {mb : Nat} {NB : Nd → Option Nat} {L : Rs → List (Nat × Nat)} {TP : Nat → Option Nat} {cnt : Nat} {wr : World}

/-- the Manager's block, a cell of the store's grants set -/
theorem MBlk.low {L' : Rs → List (Nat × Nat)} {NB' : Nd → Option Nat} (h : MBlk NB L TP wr mb) {i : Nat} (hi : i < 8) (v : Value) {w1 : World} (hw : ∀ arr, Blk wr mb arr 79 → Blk w1 mb arr 79) (hN : NB' .tabs = NB .tabs ∧ ∀ p, NB' (.part p) = NB (.part p))
    (hg : ∀ arr, Blk wr mb arr 79 → Gr arr (L .store) (NB (.more .store)) → Gr (arr.setIfInBounds i v) (L' .store) (NB' (.more .store))) : MBlk NB' L' TP (w1.setCell ⟨mb, i, none⟩ v) mb := by
  obtain ⟨arr, hB, hs, hgr, ht, hp, htp⟩ := h
  refine ⟨_, (hw arr hB).same i v, by simpa using hs, hg arr hB hgr, ?_, fun p hp' => ?_, fun p hp' => ?_⟩
  · rw [Array.getElem?_setIfInBounds_ne (by omega), hN.1]; exact ht
  · rw [Array.getElem?_setIfInBounds_ne (by omega), hN.2]; exact hp p hp'
  · rw [Array.getElem?_setIfInBounds_ne (by omega)]; exact htp p hp'

/-- a cell of an entry's grants that no grant uses yet -/
theorem Mg.gset (h : Mg X w0 mb NB L TP cnt wr) {r : Rs} {b : Nat} (ha : At mb NB r b) {i : Nat} (hi : i < 8) (v : Value) (hg : ∀ arr, Gr arr (L r) (NB (.more r)) → Gr (arr.setIfInBounds i v) (L r) (NB (.more r))) : Mg X w0 mb NB L TP cnt (wr.setCell ⟨b, i, none⟩ v) := by
  rcases ha with ⟨rfl, rfl⟩ | ⟨hr, hn⟩
  · have e := Ext.set wr ⟨b, i, none⟩ v
    obtain ⟨arr, hB, _⟩ := h.mblk
    refine { h with ext := (h.ext.trans e).mono (fun k hk hh => by rcases hh with hh | hh; exact hh; have := h.mbf; simp only at hh; omega), mblk := h.mblk.low hi v (fun _ h => h) ⟨rfl, fun _ => rfl⟩ (fun arr _ ha => hg arr ha), ok := fun m bm hm => ⟨(h.ok m bm hm).1, (h.ok m bm hm).2.ext e (fun eq => (h.ok m bm hm).2.notMb hB eq.symm)⟩, extra := h.xkeep (.inl rfl) e }
  · obtain ⟨hf, arr, hB, hs, hgr⟩ := h.ok _ _ hn
    have e := Ext.set wr ⟨b, i, none⟩ v
    obtain ⟨ar2, hB2, hr2⟩ := h.mblk
    have hmb : mb ≠ b := hB2.ne hB (by decide)
    refine { h with ext := (h.ext.trans e).mono (fun k hk hh => by rcases hh with hh | hh; exact hh; simp only at hh; have := h.ext.size; omega), mblk := ⟨ar2, hB2.ext e hmb, hr2⟩, ok := fun m bm hm => ?_, extra := h.xkeep (.inr ⟨_, hn⟩) e }
    by_cases hmn : m = .ent r
    · subst hmn
      rw [hn] at hm; injection hm with hm; subst hm
      exact ⟨hf, _, hB.same i v, by simpa using hs, hg arr hgr⟩
    · exact ⟨(h.ok m bm hm).1, (h.ok m bm hm).2.ext e (fun eq => hmn (h.inj _ _ _ hm (by simp only at eq; rw [eq]; exact hn)))⟩
theorem Gr.free {arr : Array Value} {l : List (Nat × Nat)} {mo : Option Nat} (h : Gr arr l mo) {i : Nat} (hl : l.length < 3) (hi : i = 1 + l.length ∨ i = 4 + l.length) (v : Value) : Gr (arr.setIfInBounds i v) l mo := by
  obtain ⟨h1, h2, h3, h4, h5⟩ := h
  refine ⟨by simpa using h1, by rw [Array.getElem?_setIfInBounds_ne (by omega)]; exact h2, fun j hj hj3 => ?_, by rw [Array.getElem?_setIfInBounds_ne (by omega)]; exact h4, h5⟩
  rw [Array.getElem?_setIfInBounds_ne (by omega), Array.getElem?_setIfInBounds_ne (by omega)]
  exact h3 j hj hj3
theorem Gr.inc {arr : Array Value} {l : List (Nat × Nat)} {mo : Option Nat} (h : Gr arr l mo) (hl : l.length < 3) {x m : Nat} (hx : arr[4 + l.length]? = some (.int .u64 (x : Nat))) (hm : arr[1 + l.length]? = some (.int .u8 (m : Nat))) {v : Int} (hv : v = (l.length + 1 : Nat)) : Gr (arr.setIfInBounds 0 (.int .u8 v)) (l ++ [(x, m)]) mo := by
  obtain ⟨h1, h2, h3, h4, h5⟩ := h
  refine ⟨by simpa using h1, ?_, fun j hj hj3 => ?_, by rw [Array.getElem?_setIfInBounds_ne (by omega)]; exact h4, fun _ => by simp; omega⟩
  · rw [Array.getElem?_setIfInBounds, if_pos rfl, if_pos (by omega), hv]
    congr 2
    simp
    omega
  · rw [Array.getElem?_setIfInBounds_ne (by omega), Array.getElem?_setIfInBounds_ne (by omega)]
    simp at hj
    by_cases hjl : j < l.length
    · rw [List.getElem_append_left hjl]; exact h3 j hjl hj3
    · obtain rfl : j = l.length := by omega
      simp
      exact ⟨hm, hx⟩
/-- gr.n++: one grant more -/
theorem Mg.ginc (h : Mg X w0 mb NB L TP cnt wr) {r : Rs} {b : Nat} (ha : At mb NB r b) (hl : (L r).length < 3) {x m : Nat} (hx : wr.cell? ⟨b, 4 + (L r).length, none⟩ = some (.int .u64 (x : Nat))) (hm : wr.cell? ⟨b, 1 + (L r).length, none⟩ = some (.int .u8 (m : Nat))) {v : Int} (hv : v = ((L r).length + 1 : Nat)) :
    Mg X w0 mb NB (setL L r (x, m)) TP cnt (wr.setCell ⟨b, 0, none⟩ (.int .u8 v)) := by
  have hd : (L r ++ [(x, m)]).drop 3 = (L r).drop 3 := by rw [List.drop_of_length_le (by simp; omega), List.drop_of_length_le (by omega)]
  rcases ha with ⟨rfl, rfl⟩ | ⟨hr, hn⟩
  · refine h.grant (n := none) (bn := b) rfl (Ext.set wr ⟨b, 0, none⟩ _) (Nat.le_refl _) ?_ (fun _ b' hb' => by rw [h.entS] at hb'; cases hb') (fun _ => .inl hd) (fun e => absurd rfl e) (fun e => absurd rfl e)
    exact h.mblk.low (by omega) _ (fun _ h => h) ⟨rfl, fun _ => rfl⟩ (fun arr hB hg => by rw [setL_same]; exact hg.inc hl ((hB.cell _).symm.trans hx) ((hB.cell _).symm.trans hm) hv)
  · obtain ⟨hf, arr, hB, hs, hgr⟩ := h.ok _ _ hn
    refine h.grant (n := some (.ent r)) (bn := b) hn (Ext.set wr ⟨b, 0, none⟩ _) (Nat.le_refl _) ?_ (fun e => absurd rfl e) (fun _ => .inl hd) (fun _ => .inl hr) (fun _ => by rw [hn]; simp)
    exact ⟨_, hB.same 0 _, by simpa using hs, by rw [setL_same]; exact hgr.inc hl ((hB.cell _).symm.trans hx) ((hB.cell _).symm.trans hm) hv⟩

theorem Gr.mo {arr : Array Value} {l : List (Nat × Nat)} (h : Gr arr l none) (b : Nat) : Gr (arr.setIfInBounds 7 (.map (some b))) l (some b) := by
  obtain ⟨h1, h2, h3, h4, h5⟩ := h
  refine ⟨by simpa using h1, by rw [Array.getElem?_setIfInBounds_ne (by omega)]; exact h2, fun j hj hj3 => ?_, by rw [Array.getElem?_setIfInBounds, if_pos rfl, if_pos (by omega)], fun e => by cases e⟩
  rw [Array.getElem?_setIfInBounds_ne (by omega), Array.getElem?_setIfInBounds_ne (by omega)]
  exact h3 j hj hj3
/-- gr.more = map -/
theorem Mg.mkMore (h : Mg X w0 mb NB L TP cnt wr) {r : Rs} {b : Nat} (ha : At mb NB r b) (h0 : NB (.more r) = none) : Mg X w0 mb (setN NB (.more r) wr.heap.size) L TP cnt ((wr.alloc (.map #[] 0)).setCell ⟨b, 7, none⟩ (.map (some wr.heap.size))) := by
  have fresh : ∀ {w' : World}, (L r).length ≤ 3 → Mp Yba.prog 41 w' wr.heap.size 0 (fun _ => none) → Ok (setN NB (.more r) wr.heap.size) L cnt w' (.more r) wr.heap.size := by
    intro w' hle hm
    show Mp _ _ _ _ _ _
    rw [intK_none (fun x => by rw [List.drop_of_length_le hle]; rfl)]
    exact hm.mono (Nat.zero_le _)
  rcases ha with ⟨rfl, rfl⟩ | ⟨hr, hn⟩
  · obtain ⟨arr, hB, hs, hg, _⟩ := h.mblk
    refine h.growM (fun n hc => by cases hc; contradiction) (fun r => by simp) h0 (Nat.le_refl _) (set_alloc _ _ _ _ _) ?_ (fresh (hg.2.2.2.2 h0) (made_set wr h.mlt _ _ _))
    exact h.mblk.low (w1 := wr.alloc (.map #[] 0)) (by omega) _ (fun arr hb => hb.alloc _) ⟨setN_other _ _ (by simp), fun p => setN_other _ _ (by simp)⟩ (fun arr _ hg => by rw [setN_same]; rw [h0] at hg; exact hg.mo _)
  · obtain ⟨hf, arr, hB, hs, hg⟩ := h.ok _ _ hn
    refine h.grow (.more r hr) hn h0 (Nat.le_refl _) (set_alloc _ _ _ _ _) (Nat.le_refl _) ?_ (fresh (hg.2.2.2.2 h0) (made_set wr hB.lt _ _ _))
    refine ⟨_, (hB.alloc _).same 7 _, by simpa using hs, ?_⟩
    rw [setN_same]
    rw [h0] at hg
    exact hg.mo _
theorem look_snoc {l : List (Nat × Nat)} {x m : Nat} (h : ∀ e ∈ l, e.1 ≠ x) (y : Int) : look (l ++ [(x, m)]) y = if y = (x : Int) then some m else look l y := by
  unfold look
  rw [List.find?_append]
  by_cases hy : y = (x : Int)
  · subst hy
    have : l.find? (fun e => decide ((e.1 : Int) = (x : Int))) = none := by
      rw [List.find?_eq_none]
      intro e he
      have := h e he
      simp
      omega
    rw [this]
    simp
  · rw [if_neg hy]
    cases hf : l.find? (fun e => decide ((e.1 : Int) = y)) with
    | some e => simp
    | none =>
      have : ¬ ((x : Int) = y) := fun e => hy e.symm
      simp [this]
/-- gr.more[tx] = mode -/
theorem Mg.putMore (h : Mg X w0 mb NB L TP cnt wr) {r : Rs} {b mo x m : Nat} (ha : At mb NB r b) (hn : NB (.more r) = some mo) (hl : 3 ≤ (L r).length) (hx : x < 18446744073709551616) (hne : ∀ e ∈ L r, e.1 ≠ x) (hcnt : cnt < maxLen) :
    ∃ w', (Instr.mapUpdate 43 (.map (some mo)) (.int .u64 (x : Nat)) (.int .u8 (m : Nat))).run Yba.prog wr = .ok () w' ∧ Mg X w0 mb NB (setL L r (x, m)) TP (cnt + 1) w' ∧ wr.grownBy w' (some mo) := by
  obtain ⟨w', hrun, hp, hg⟩ := Mp.put (h.ok _ _ hn).2 keyed41 Yba.underlying43 hcnt (key41 x hx) (val := .int .u8 (m : Nat))
  refine ⟨w', hrun, h.grant (n := some (.more r)) (bn := mo) (x := (x, m)) hn ((Ext.grown hg).mono (fun k _ e => (Option.some.inj e).symm)) (Nat.le_succ _) ?_ (fun _ b' hb' hok => ?_) (fun e => absurd rfl e) (fun _ => ?_) (fun hrs => ?_), hg⟩
  · show Mp _ _ _ _ _ _
    have e : upd (intK fun y => (look ((L r).drop 3) y).map (fun m => Value.int .u8 (m : Nat))) (.int .u64 (x : Nat)) (.int .u8 (m : Nat)) = intK fun y => (look ((setL L r (x, m) r).drop 3) y).map (fun m => Value.int .u8 (m : Nat)) := by
      funext lt
      rw [setL_same, List.drop_append_of_le_length hl]
      by_cases hlt : lt = .int .u64 (x : Nat)
      · subst hlt
        rw [upd_same]
        show _ = (look _ _).map _
        rw [look_snoc (fun e he => hne e (List.mem_of_mem_drop he)), if_pos rfl]; rfl
      · rw [upd_other _ _ hlt]
        cases lt with
        | int k y =>
          cases k <;> try rfl
          show (look _ _).map _ = (look _ _).map _
          rw [look_snoc (fun e he => hne e (List.mem_of_mem_drop he)), if_neg (fun e => hlt (by rw [e]))]
        | _ => rfl
    rw [← e]
    exact hp
  · obtain ⟨arr, hB, hs, hgr⟩ := hok
    refine ⟨arr, hB, hs, ?_⟩
    rw [setL_same]
    exact hgr.add hl (by rw [hn]; simp)
  · by_cases hrs : r = .store
    · subst hrs; exact .inr ⟨hl, by rw [hn]; simp⟩
    · exact .inl hrs
  · rcases ha with ⟨e, _⟩ | ⟨_, hn2⟩
    · exact absurd e hrs
    · rw [hn2]; simp
end
end Go.Proofs.YbulkdtuwC
