import Derived.Test.YbulkdtuwCG1
namespace Go.Proofs.YbulkdtuwC
open Go.RowKit Go.Proofs.YbulkdtuwB RawMap

theorem key9 (s : ByteArray) (h : s.size ≤ maxLen) : keyOf Yba.prog 9 (.string s) = some (.string s.data.toList) := by
  unfold keyOf mapKey
  rw [Yba.underlying9]
  simp only [h, if_true]
theorem keyed9 : Maps.Keyed Yba.prog 9 := Maps.string_keyed Yba.underlying9
theorem keyed41 : Maps.Keyed Yba.prog 41 := Maps.int_keyed Yba.underlying41
theorem key41 (x : Nat) (h : x < 18446744073709551616) : keyOf Yba.prog 41 (.int .u64 (x : Nat)) = some (.int .u64 (x : Nat)) := by
  unfold keyOf mapKey
  rw [Yba.underlying41]
  have : (Lit.int IntKind.u64 (x : Nat)).wf = true := by
    have h1 : IntKind.u64.min = 0 := by decide
    have h2 : IntKind.u64.max = 18446744073709551615 := by decide
    simp [Lit.wf, h1, h2]
    omega
  simp only [this, and_self, if_true]
theorem ba_eta (s : ByteArray) : (⟨s.data.toList.toArray⟩ : ByteArray) = s := by cases s; rfl

theorem Gr.set {arr : Array Value} {L : List (Nat × Nat)} {mo : Option Nat} (h : Gr arr L mo) {i : Nat} (hi : 8 ≤ i) (v : Value) : Gr (arr.setIfInBounds i v) L mo := by
  obtain ⟨h1, h2, h3, h4, h5⟩ := h
  have e : ∀ j, j < 8 → (arr.setIfInBounds i v)[j]? = arr[j]? := fun j hj => Array.getElem?_setIfInBounds_ne (by omega)
  refine ⟨by simpa using h1, by rw [e 0 (by omega)]; exact h2, fun j hj hj3 => ?_, by rw [e 7 (by omega)]; exact h4, h5⟩
  rw [e _ (by omega), e _ (by omega)]
  exact h3 j hj hj3

section
variable {X : Nat → Array Value → TypeId → Prop} {w0 : World} {mb : Nat} {NB : Nd → Option Nat} {L : Rs → List (Nat × Nat)} {TP : Nat → Option Nat} {cnt : Nat} {wr : World}

theorem Mg.cTabs (h : Mg X w0 mb NB L TP cnt wr) : wr.cell? ⟨mb, 31, none⟩ = some (.map (NB .tabs)) ∧ wr.frozen? ⟨mb, 31, none⟩ = false := by
  obtain ⟨arr, hB, hs, hg, ht, hp, htp⟩ := h.mblk
  exact ⟨(hB.cell 31).trans ht, hB.frozen 31⟩
theorem Mg.cPart (h : Mg X w0 mb NB L TP cnt wr) {p : Nat} (hp16 : p < 16) : wr.cell? ⟨mb, 32 + 132 * p, none⟩ = some (.map (NB (.part p))) ∧ wr.frozen? ⟨mb, 32 + 132 * p, none⟩ = false := by
  obtain ⟨arr, hB, hs, hg, ht, hp, htp⟩ := h.mblk
  exact ⟨(hB.cell _).trans (hp p hp16), hB.frozen _⟩
theorem Mg.cTx (h : Mg X w0 mb NB L TP cnt wr) {p : Nat} (hp16 : p < 16) : wr.cell? ⟨mb, 2144 + 66 * p, none⟩ = some (.map (TP p)) ∧ wr.frozen? ⟨mb, 2144 + 66 * p, none⟩ = false := by
  obtain ⟨arr, hB, hs, hg, ht, hp, htp⟩ := h.mblk
  exact ⟨(hB.cell _).trans (htp p hp16), hB.frozen _⟩

theorem set_alloc (wr : World) (o : Obj) (mb i : Nat) (v : Value) : Ext (fun k => k = mb) wr ((wr.alloc o).setCell ⟨mb, i, none⟩ v) :=
  ((Ext.alloc wr o).trans (Ext.set _ ⟨mb, i, none⟩ v)).mono (fun k _ h => by rcases h with h | h; exact h.elim; exact h)

/-- the Manager's block, one map field set -/
theorem Mg.mset (h : Mg X w0 mb NB L TP cnt wr) {c : Nd} {b i : Nat} (o : Obj) (hi : (c = .tabs ∧ i = 31) ∨ ∃ p, p < 16 ∧ c = .part p ∧ i = 32 + 132 * p) : MBlk (setN NB c b) L TP ((wr.alloc o).setCell ⟨mb, i, none⟩ (.map (some b))) mb := by
  obtain ⟨arr, hB, hs, hg, ht, hp, htp⟩ := h.mblk
  have hi8 : 8 ≤ i ∧ i < 3202 := by rcases hi with ⟨_, rfl⟩ | ⟨p, hp', _, rfl⟩ <;> omega
  have hcs : c ≠ .more .store := by rcases hi with ⟨rfl, _⟩ | ⟨p, _, rfl, _⟩ <;> simp
  refine ⟨_, (hB.alloc o).same i _, by simpa using hs, ?_, ?_, fun p hp' => ?_, fun p hp' => ?_⟩
  · rw [setN_other _ _ (Ne.symm hcs)]; exact hg.set hi8.1 _
  · rw [Array.getElem?_setIfInBounds]
    rcases hi with ⟨rfl, rfl⟩ | ⟨p, _, rfl, rfl⟩
    · rw [if_pos rfl, if_pos (by omega), setN_same]
    · rw [if_neg (by omega), setN_other _ _ (by simp)]; exact ht
  · rw [Array.getElem?_setIfInBounds]
    rcases hi with ⟨rfl, rfl⟩ | ⟨p', hp2, rfl, rfl⟩
    · rw [if_neg (by omega), setN_other _ _ (by simp)]; exact hp p hp'
    · by_cases hpp : p' = p
      · subst hpp
        rw [if_pos rfl, if_pos (by omega), setN_same]
      · rw [if_neg (by omega), setN_other _ _ (by simpa using Ne.symm hpp)]; exact hp p hp'
  · rw [Array.getElem?_setIfInBounds, if_neg]
    · exact htp p hp'
    · rcases hi with ⟨rfl, rfl⟩ | ⟨p', _, rfl, rfl⟩ <;> omega
theorem made_set (wr : World) {g : Nat} (hg : g < wr.heap.size) (i : Nat) (v : Value) (k : TypeId) : Mp Yba.prog k ((wr.alloc (.map #[] 0)).setCell ⟨g, i, none⟩ v) wr.heap.size 0 (fun _ => none) :=
  (Mp.made Yba.prog k wr).of (Below.heap_setCell _ _ _ _ (by simp only; omega))
theorem strK_none {f : ByteArray → Option Value} (h : ∀ s, f s = none) : strK f = fun _ => none := by funext l; cases l <;> simp [strK, h]
theorem intK_none {f : Int → Option Value} (h : ∀ s, f s = none) : intK f = fun _ => none := by
  funext l
  cases l with
  | int k x => cases k <;> simp [intK, h]
  | _ => rfl
theorem Mg.mkTabs (h : Mg X w0 mb NB L TP cnt wr) (h0 : NB .tabs = none) : Mg X w0 mb (setN NB .tabs wr.heap.size) L TP cnt ((wr.alloc (.map #[] 0)).setCell ⟨mb, 31, none⟩ (.map (some wr.heap.size))) := by
  refine h.growM (fun n hc => by cases hc) (fun r => by simp) h0 (Nat.le_refl _) (set_alloc _ _ _ _ _) (h.mset _ (.inl ⟨rfl, rfl⟩)) ?_
  show Mp _ _ _ _ _ _
  rw [strK_none (fun s => by rw [setN_other _ _ (by simp), h.shut _ _ (.tab s) h0]; rfl)]
  exact (made_set wr h.mlt _ _ _).mono (Nat.zero_le _)
theorem Mg.mkPart (h : Mg X w0 mb NB L TP cnt wr) {p : Nat} (hp : p < 16) (h0 : NB (.part p) = none) : Mg X w0 mb (setN NB (.part p) wr.heap.size) L TP cnt ((wr.alloc (.map #[] 0)).setCell ⟨mb, 32 + 132 * p, none⟩ (.map (some wr.heap.size))) := by
  refine h.growM (fun n hc => by cases hc) (fun r => by simp) h0 (Nat.le_refl _) (set_alloc _ _ _ _ _) (h.mset _ (.inr ⟨p, hp, rfl, rfl⟩)) ?_
  show Mp _ _ _ _ _ _
  rw [strK_none (fun s => by rw [setN_other _ _ (by simp), h.shut _ _ (.tk p s) h0]; rfl)]
  exact (made_set wr h.mlt _ _ _).mono (Nat.zero_le _)
/-- tk.keys[span] = map -/
theorem Mg.mkKeys (h : Mg X w0 mb NB L TP cnt wr) {p bt : Nat} {t : ByteArray} {g : Bool} (hp : NB (.tk p t) = some bt) (h0 : NB (.keys p t g) = none) : Mg X w0 mb (setN NB (.keys p t g) wr.heap.size) L TP cnt ((wr.alloc (.map #[] 0)).setCell ⟨bt, if g then 2 else 1, none⟩ (.map (some wr.heap.size))) := by
  obtain ⟨hf, nm, nv, cv, hB⟩ := h.ok _ _ hp
  refine h.grow (.keys p t g) hp h0 (Nat.le_refl _) (set_alloc _ _ _ _ _) (Nat.le_refl _) ?_ ?_
  · refine ⟨nm, nv, cv, ?_⟩
    have := (hB.alloc (.map #[] 0)).same (if g then 2 else 1) (.map (some wr.heap.size))
    cases g with
    | true => rw [setN_other _ _ (by simp), setN_same]; exact this
    | false => rw [setN_same, setN_other _ _ (by simp)]; exact this
  · show Mp _ _ _ _ _ _
    rw [strK_none (fun s => by
      by_cases hps : pn t s = p
      · rw [if_pos hps, setN_other _ _ (by simp), h.shut (.keys p t g) _ (by rw [← hps]; exact .key t s g) h0]; rfl
      · rw [if_neg hps])]
    exact (made_set wr hB.lt _ _ _).mono (Nat.zero_le _)

/-- a new struct, hung into a map of strings -/
theorem Mg.hang (h : Mg X w0 mb NB L TP cnt wr) {n c : Nd} {bm : Nat} (hc : Ch n c) (hn : NB n = some bm) (h0 : NB c = none) (cs : Array Value) (ty : TypeId) {f f' : Lit → Option Value} (hf : Mp Yba.prog 9 wr bm cnt f)
    (hf' : ∀ w', Mp Yba.prog 9 w' bm (cnt + 1) f' → Ok (setN NB c wr.heap.size) L (cnt + 1) w' n bm) (s : ByteArray) (hs : s.size ≤ maxLen) (hu : upd f (.string s.data.toList) (.pointer (some ⟨wr.heap.size, 0, none⟩)) = f')
    (hnew : ∀ w', Blk w' wr.heap.size cs ty → Ok (setN NB c wr.heap.size) L (cnt + 1) w' c wr.heap.size) {t e : TypeId} (hty : Yba.prog.underlying t = some (.map 9 e)) (hcnt : cnt < maxLen) {Wd : World} (hWd : Ext (fun _ => False) (wr.alloc (.cells cs ty)) Wd) :
    ∃ w', (Instr.mapUpdate t (.map (some bm)) (.string s) (.pointer (some ⟨wr.heap.size, 0, none⟩))).run Yba.prog Wd = .ok () w' ∧ Mg X w0 mb (setN NB c wr.heap.size) L TP (cnt + 1) w' ∧ Wd.grownBy w' (some bm) := by
  have hlt := RawMap.Mp.lt hf
  have hd : Mp Yba.prog 9 Wd bm cnt f := hf.of ((hWd.block bm (by simp; omega) id).trans (Below.heap_alloc _ _ _ hlt))
  obtain ⟨w', hrun, hp, hg⟩ := hd.put keyed9 hty hcnt (key9 s hs) (val := .pointer (some ⟨wr.heap.size, 0, none⟩))
  have hb : Blk Wd wr.heap.size cs ty := (Blk.new wr cs ty).ext hWd id
  refine ⟨w', hrun, h.grow hc hn h0 (Nat.le_refl _) ((((Ext.alloc wr _).trans hWd).trans (Ext.grown hg)).mono (fun k _ hh => ?_)) (Nat.le_succ _) (hf' w' (by rw [← hu]; exact hp)) (hnew w' (hb.ext (Ext.grown hg) (fun e => by injection e with e; omega))), hg⟩
  rcases hh with (hh | hh) | hh
  · exact hh.elim
  · exact hh.elim
  · exact (Option.some.inj hh).symm
theorem upd_str {f : ByteArray → Option Value} {f' : ByteArray → Option Value} {s : ByteArray} {v : Value} (h1 : f' s = some v) (h2 : ∀ x, x ≠ s → f' x = f x) : upd (strK f) (.string s.data.toList) v = strK f' := by
  funext l
  by_cases hl : l = .string s.data.toList
  · subst hl
    rw [upd_same]
    show _ = f' _
    rw [ba_eta, h1]
  · rw [upd_other _ _ hl]
    cases l with
    | string b =>
      show f _ = f' _
      rw [h2]
      intro e
      apply hl
      rw [← e]
    | _ => rfl
/-- a new entry, empty -/
def entC : Rs → Array Value
  | .store => #[.int .u8 0, .int .u8 0, .int .u8 0, .int .u8 0, .int .u64 0, .int .u64 0, .int .u64 0, .map none, .int .i32 0, .int .i32 0, .int .i32 0, .int .i32 0, .int .i32 0, .int .i32 0, .int .u8 0, .int .u8 0, .int .u8 0, .string ⟨#[]⟩, .string ⟨#[]⟩, .pointer none, .slice none 0 0, .slice none 0 0, .slice none 0 0, .slice none 0 0, .slice none 0 0, .slice none 0 0, .slice none 0 0, .chan none, .slice none 0 0, .bool false, .bool false]
  | .tab t => #[.int .u8 0, .int .u8 0, .int .u8 0, .int .u8 0, .int .u64 0, .int .u64 0, .int .u64 0, .map none, .int .i32 0, .int .i32 0, .int .i32 0, .int .i32 0, .int .i32 0, .int .i32 0, .int .u8 1, .int .u8 0, .int .u8 0, .string t, .string ⟨#[]⟩, .pointer none, .slice none 0 0, .slice none 0 0, .slice none 0 0, .slice none 0 0, .slice none 0 0, .slice none 0 0, .slice none 0 0, .chan none, .slice none 0 0, .bool false, .bool false]
  | .key g t k => #[.int .u8 0, .int .u8 0, .int .u8 0, .int .u8 0, .int .u64 0, .int .u64 0, .int .u64 0, .map none, .int .i32 0, .int .i32 0, .int .i32 0, .int .i32 0, .int .i32 0, .int .i32 0, .int .u8 2, .int .u8 (if g then 1 else 0), .int .u8 (pn t k : Nat), .string t, .string k, .pointer none, .slice none 0 0, .slice none 0 0, .slice none 0 0, .slice none 0 0, .slice none 0 0, .slice none 0 0, .slice none 0 0, .chan none, .slice none 0 0, .bool false, .bool false]
theorem entC_gr (r : Rs) : (entC r).size = 31 ∧ Gr (entC r) [] none := by
  have hs : (entC r).size = 31 := by cases r <;> rfl
  refine ⟨hs, by omega, by cases r <;> rfl, fun i hi => absurd hi (by simp), by cases r <;> rfl, fun _ => by simp⟩
end
end Go.Proofs.YbulkdtuwC
