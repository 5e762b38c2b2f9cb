import Derived.Test.YbulkdtuwBW4
import Derived.OwnWalk
import Derived.Lib.RowBridge
import Derived.LoopTactic
import Derived.Deep.DeepCutAuto
import Derived.Deep.LoopGhost
namespace Go.Proofs.YbulkdtuwB
open Go.RowKit Go.Sort Go.Lib

theorem lawB_big (p q : Option Addr) (rn rc zn zc pk : Nat) (w : World) (h : 65536 < rn ∨ 65536 < zn) (hr : rn ≤ maxLen) (hz : zn ≤ maxLen) :
    Calls Yba.prog 4 #[.slice p rn rc, .slice q zn zc, .int .u64 pk] w fun e w' => e = .returned (.bool true) ∧ Below w.heap.size w w' := by
  unfold maxLen at hr hz
  by_cases h1 : 65536 < rn
  · have f1 : decide ((65536 : Int) < (rn : Int)) = true := decide_eq_true (by omega)
    go_enter Yba.func4, Yba.ntmps4
    go_wp2
    go_ret
    exact ⟨rfl, Below.refl _ _⟩
  · have f1 : decide ((65536 : Int) < (rn : Int)) = false := decide_eq_false (by omega)
    have f2 : decide ((65536 : Int) < (zn : Int)) = true := decide_eq_true (by omega)
    go_enter Yba.func4, Yba.ntmps4
    go_wp2
    go_ret
    exact ⟨rfl, Below.refl _ _⟩

theorem run_copy_all {w : World} {g n rc : Nat} {p : Option Addr} {cur : Array Value} {cs : List Value} (hg : Blk w g cur 9) (hn : cur.size = n) (hc : cs.length = n)
    (hp : 0 < n → ∃ a, p = some a ∧ ∀ j v, cs[j]? = some v → w.cell? (a.add j) = some v) (h1 : ∀ v ∈ cs, v.oneCell' = true) :
    ∃ w', (Builtin.copy_ #[26, 26] 3 #[.slice (some ⟨g, 0, none⟩) n n, .slice p n rc]).run Yba.prog w = .ok (goInt n) w' ∧ Blk w' g cs.toArray 9 ∧ Ext (fun k => k = g) w w' := by
  obtain ⟨i9, hi9, hz9, hs9, hb9⟩ := inf9
  have hsz : (Yba.prog.info? 9).map (·.size) = some 1 := by rw [hi9]; simp [hs9]
  by_cases h0 : n = 0
  · subst h0
    have := run_copy_none (P := Yba.prog) w 26 26 3 9 (some ⟨g, 0, none⟩) p 0 0 0 rc Yba.underlying26 hsz (by simp)
    refine ⟨w, this, ?_, ⟨rfl, rfl, rfl, Nat.le_refl _, fun _ _ _ => rfl⟩⟩
    rw [List.eq_nil_of_length_eq_zero hc]
    have : cur = #[] := Array.eq_empty_of_size_eq_zero hn
    rw [this] at hg
    exact hg
  · obtain ⟨a, rfl, ha⟩ := hp (by omega)
    have := run_copy_row (P := Yba.prog) w 26 26 3 9 g 0 n n a n rc cur 9 cs Yba.underlying26 hsz hg (by rw [hc]; simp) ha (by omega) h1
    rw [hc] at this
    refine ⟨_, this, ?_, ⟨rfl, rfl, rfl, by simp [World.setRow], fun k _ hk => setRow_other w g k _ hk⟩⟩
    have h2 := setRow_heap w g cur (cur.toList.take 0 ++ cs ++ cur.toList.drop (0 + n)).toArray 9 (0, 0) hg
    have h3 : (cur.toList.take 0 ++ cs ++ cur.toList.drop (0 + n)) = cs := by simp [← hn]
    rw [h3] at h2 ⊢
    exact h2

theorem own_blk {w : World} {b e : Nat} {g n c : Nat} {xs : List Value} (h : w.ownsRow b e 1 (.slice (some ⟨g, 0, none⟩) n c) n xs) : ∃ cur, Blk w g cur e ∧ cur.size = c ∧ cur.toList.take n = xs := by
  rcases h.2 with ⟨h, _⟩ | ⟨g', cap, cur, hv, hb, hg, hnc, hcm, hcs, ht⟩
  · cases h
  · injection hv with h1 h2 h3
    injection h1 with h1
    injection h1 with h1
    subst h1 h3
    exact ⟨cur, hg, by omega, by simpa using ht⟩

theorem ext_make {w w' : World} (h : w.grownBy w' none) : Ext (fun _ => False) w w' := (Ext.grown h).mono (fun _ _ e => by cases e)

theorem prep {w w1 : World} {p : Option Addr} {raw : List (List UInt8)} {rn rc : Nat} {xs : List Value} (ho : w1.ownsRow w.heap.size 9 1 (.slice (some ⟨w.heap.size, 0, none⟩) rn rn) rn xs) (hg : w.grownBy w1 none) (hrl : raw.length = rn)
    (hraw : 0 < rn → ∃ a, p = some a ∧ ∀ j s, raw[j]? = some s → w.cell? (a.add j) = some (encStr s)) :
    Hid (∃ w2, (Builtin.copy_ #[26, 26] 3 #[.slice (some ⟨w.heap.size, 0, none⟩) rn rn, .slice p rn rc]).run Yba.prog w1 = .ok (goInt rn) w2 ∧ Blk w2 w.heap.size (raw.map encStr).toArray 9 ∧ Ext (fun _ => False) w w2) := by
  obtain ⟨cur, hb, hs, _⟩ := own_blk ho
  obtain ⟨w2, h1, h2, h3⟩ := run_copy_all (rc := rc) (p := p) (cs := raw.map encStr) hb hs (by simp [hrl]) (fun h0 => by
    obtain ⟨a, ha, hc⟩ := hraw h0
    refine ⟨a, ha, fun j v hv => ?_⟩
    simp only [List.getElem?_map, Option.map_eq_some_iff] at hv
    obtain ⟨s, hs, rfl⟩ := hv
    have := hc j s hs
    rw [World.cell?_of_block (w := w)]
    · exact this
    · exact hg.block _ (World.block_lt_of_cell? _ _ this) (by simp)) (by simp [encs, Value.oneCell'])
  exact ⟨w2, h1, h2, ((ext_make hg).trans h3).mono (fun k hk e => by rcases e with e | e; exact e; omega)⟩

/-- block g holds these strings at its head -/
def Kb (w : World) (g : Nat) (K : List (List UInt8)) : Prop := ∃ cur, Blk w g cur 9 ∧ cur.toList.take K.length = K.map encStr
theorem Kb.size {w : World} {g : Nat} {K : List (List UInt8)} (h : Kb w g K) : ∃ cur, Blk w g cur 9 ∧ cur.toList.take K.length = K.map encStr ∧ K.length ≤ cur.size := by
  obtain ⟨cur, h1, h2⟩ := h
  refine ⟨cur, h1, h2, ?_⟩
  have := congrArg List.length h2
  simp only [List.length_take, Array.length_toList, List.length_map] at this
  omega
theorem Kb.cell {w : World} {g : Nat} {K : List (List UInt8)} (h : Kb w g K) (j : Nat) (hj : j < K.length) : w.cell? ⟨g, j, none⟩ = some (.string ⟨K[j].toArray⟩) := by
  obtain ⟨cur, h1, h2⟩ := h
  rw [h1.cell, take_cell (L := K.map encStr) (by simpa using h2) j (by simpa using hj), List.getElem_map, encs]
theorem Kb.ext {ex : Nat → Prop} {w w' : World} {g : Nat} {K : List (List UInt8)} (h : Kb w g K) (e : Ext ex w w') (hn : ¬ ex g) : Kb w' g K := by
  obtain ⟨cur, h1, h2⟩ := h
  exact ⟨cur, h1.ext e hn, h2⟩
theorem Kb.put {w : World} {g q : Nat} {K X Y : List (List UInt8)} (h : Kb w g K) (hl : (X ++ Y).length = K.length) : Kb (putRow encStr (Sort.ahead w q) g 0 (X ++ Y).toArray) g X := by
  obtain ⟨cur, h1, h2, h3⟩ := h.size
  exact ⟨_, (h1.ahead q).put _, take_put cur X Y (by omega)⟩

theorem sort_c (g n : Nat) (ss : List (List UInt8)) (w : World) (h : Kb w g ss) (hn : ss.length = n) (hb : n ≤ 65536) :
    Calls Yba.prog 8 #[.slice (some ⟨g, 0, none⟩) n n] w fun e w' => e = .returned (.tuple #[]) ∧ Kb w' g (ss.mergeSort fun x y => decide (x ≤ y)) ∧ Ext (fun k => k = g) w w' := by
  subst hn
  obtain ⟨cur, h1, h2⟩ := h
  refine (Yba.slices_Sort_string g 0 ss.length ss w (holds_of h1 h2) h1.lt (by omega)).mono ?_
  rintro e w' ⟨rfl, q, os, rfl⟩
  refine ⟨rfl, ?_, ?_⟩
  · have := Kb.put (q := q) (X := ss.mergeSort fun x y => decide (x ≤ y)) (Y := []) ⟨cur, h1, h2⟩ (by simp)
    rw [List.append_nil] at this
    exact this.ext (Ext.heaps _ _) id
  · exact ((Ext.put encStr w q g _).trans (Ext.heaps _ os)).mono (fun k _ e => by rcases e with e | e; exact e; exact e.elim)

theorem compact_c (g n : Nat) (ss : List (List UInt8)) (w : World) (h : Kb w g ss) (hn : ss.length = n) (hb : n ≤ 65536) :
    Calls Yba.prog 9 #[.slice (some ⟨g, 0, none⟩) n n] w fun e w' => e = .returned (.slice (some ⟨g, 0, none⟩) (Lib.compact ss).length n) ∧ Kb w' g (Lib.compact ss) ∧ Ext (fun k => k = g) w w' := by
  subst hn
  obtain ⟨cur, h1, h2⟩ := h
  refine (Yba.slices_Compact_string g 0 ss.length ss w (holds_of h1 h2) (by omega) (Nat.le_refl _)).mono ?_
  rintro e w' ⟨rfl, q, rfl⟩
  refine ⟨rfl, ?_, Ext.put encStr w q g _⟩
  refine Kb.put ⟨cur, h1, h2⟩ ?_
  have := Lib.compact_length_le ss
  simp only [List.length_append, List.length_replicate]
  omega

/-- the outer loop's state -/
def Rel (w : World) (K : List (List UInt8)) (key : List UInt8) (kb : Nat) (kc : Array Value) (bx f : Nat) (vw sp sr : Value) (wr : World) : Prop :=
  ∃ (pos r : Nat) (vs : Value) (S W : List Rn), sp = .int .i64 pos ∧ sr = .int .i64 r ∧ pos ≤ K.length ∧ r ≤ pos ∧ K.length - pos ≤ f ∧ Mem w w.heap.size kb kc bx vs vw S W wr ∧ Pl K key pos S W
theorem rel_start {w wc : World} {K : List (List UInt8)} {key : List UInt8} {kb : Nat} {kc : Array Value} (hk : Blk wc kb kc 9) (hb : Below w.heap.size w wc) :
    Rel w K key kb kc wc.heap.size K.length (.slice none 0 0) (.int .i64 0) (.int .i64 0) (wc.alloc (.cells #[.slice none 0 0] 32)) := by
  refine ⟨0, 0, .slice none 0 0, [], [], rfl, rfl, Nat.zero_le _, Nat.le_refl _, by omega, ?_, ⟨by simp, by simp [wantOf], Nat.le_refl _, Nat.le_refl _⟩⟩
  exact { below := hb.alloc hb.size _, le := by have := hb.size; simp; omega, keys := hk.alloc _, Bbx := hb.size, box := Blk.new _ _ _, ownS := .inl ⟨rfl, rfl⟩, ownW := .inl ⟨rfl, rfl⟩, Bs := (fun g h => nomatch h), Bw := (fun g h => nomatch h), apart := (fun g h => nomatch h), okS := (fun y h => nomatch h), okW := (fun y h => nomatch h), nodup := List.nodup_nil, apartR := (fun y h => nomatch h) }

theorem prep2 {wc w6 : World} {K : List (List UInt8)} {kb pos e cap : Nat} {kc : Array Value} {xs : List Value} (ho : w6.ownsRow wc.heap.size 9 1 (.slice (some ⟨wc.heap.size, 0, none⟩) (e - pos) (e - pos)) (e - pos) xs) (hg : wc.grownBy w6 none) (hk : Blk wc kb kc 9) (he : e ≤ K.length)
    (hkc : ∀ w', Blk w' kb kc 9 → ∀ j s, K[j]? = some s → w'.cell? ⟨kb, j, none⟩ = some (.string ⟨s.toArray⟩)) :
    Hid (∃ w7, (Builtin.copy_ #[26, 26] 3 #[.slice (some ⟨wc.heap.size, 0, none⟩) (e - pos) (e - pos), .slice (some ⟨kb, pos, none⟩) (e - pos) (cap - pos)]).run Yba.prog w6 = .ok (goInt ((e - pos : Nat) : Int)) w7 ∧ Blk w7 wc.heap.size (((K.take e).drop pos).map encStr).toArray 9 ∧ Ext (fun _ => False) wc w7) := by
  obtain ⟨cur, hb, hs, _⟩ := own_blk ho
  obtain ⟨w2, h1, h2, h3⟩ := run_copy_all (rc := cap - pos) (p := some ⟨kb, pos, none⟩) (cs := ((K.take e).drop pos).map encStr) hb hs (by simp; omega) (fun h0 => by
    refine ⟨_, rfl, fun j v hv => ?_⟩
    simp only [List.getElem?_map, Option.map_eq_some_iff] at hv
    obtain ⟨s, hs, rfl⟩ := hv
    rw [List.getElem?_drop, List.getElem?_take] at hs
    split at hs
    · have hadd : (⟨kb, pos, none⟩ : Addr).add j = ⟨kb, pos + j, none⟩ := by unfold Addr.add; split <;> simp_all
      rw [hadd]
      exact hkc w6 (hk.ext (ext_make hg) id) _ _ hs
    · cases hs) (fun v hv => by obtain ⟨s, _, rfl⟩ := List.mem_map.1 hv; rfl)
  exact ⟨w2, h1, h2, ((ext_make hg).trans h3).mono (fun k hk e => by rcases e with e | e; exact e; omega)⟩

theorem new_cell (w : World) (v : Value) (t : TypeId) : (w.alloc (.cells #[v] t)).cell? ⟨w.heap.size, 0, none⟩ = some v := (Blk.new w #[v] t).cell 0

theorem own_form {w : World} {e : TypeId} {v u : Value} {xs : List Value} (h : Own w e v (xs ++ [u])) : ∃ g c, v = .slice (some ⟨g, 0, none⟩) (xs.length + 1) c := by
  rcases h with ⟨_, h⟩ | ⟨g, c, cur, rfl, _⟩
  · simp at h
  · exact ⟨g, c, by simp⟩

/-- the inner loop's state -/
def Inn (w9 : World) (K : List (List UInt8)) (key : List UInt8) (pos e f : Nat) (v sq : Value) (wr : World) : Prop :=
  ∃ q : Nat, sq = .int .i64 q ∧ pos ≤ q ∧ q ≤ e ∧ e - q ≤ f ∧ Below w9.heap.size w9 wr ∧ Own wr 9 v ((((K.take q).drop pos).filter (fun s => decide (s ≠ key))).map encStr) ∧ (∀ g, v.ownBlock = some g → w9.heap.size ≤ g)

theorem step_list {K : List (List UInt8)} {pos q : Nat} {s : List UInt8} (h : pos ≤ q) (hs : K[q]? = some s) : (K.take (q + 1)).drop pos = (K.take q).drop pos ++ [s] := by
  obtain ⟨hq, rfl⟩ := List.getElem?_eq_some_iff.1 hs
  rw [List.take_succ_eq_append_getElem hq, List.drop_append_of_le_length (by simp; omega)]
theorem filt_len {K : List (List UInt8)} {key : List UInt8} {pos q : Nat} : ((((K.take q).drop pos).filter (fun s => decide (s ≠ key))).map encStr).length ≤ K.length := by
  rw [List.length_map]
  refine Nat.le_trans (List.length_filter_le _ _) ?_
  simp
  omega
theorem HLNe (K : List (List UInt8)) (key : List UInt8) (pos q : Nat) : (((K.take q).drop pos).filter (fun s => decide (s ≠ key))).length ≤ K.length := by
  have := filt_len (K := K) (key := key) (pos := pos) (q := q)
  rw [List.length_map] at this
  exact this
theorem Inn.skip {w9 wr : World} {K : List (List UInt8)} {key s : List UInt8} {pos e q : Nat} {v : Value} (h1 : pos ≤ q) (h2 : q < e) (hs : K[q]? = some s) (hsk : s = key) (hB : Below w9.heap.size w9 wr)
    (hO : Own wr 9 v ((((K.take q).drop pos).filter (fun s => decide (s ≠ key))).map encStr)) (hG : ∀ g, v.ownBlock = some g → w9.heap.size ≤ g) : Inn w9 K key pos e (e - (q + 1)) v (.int .i64 ((q : Int) + 1)) wr := by
  refine ⟨q + 1, rfl, by omega, by omega, Nat.le_refl _, hB, ?_, hG⟩
  rw [step_list h1 hs, List.filter_append, List.filter_cons, if_neg (by simp [hsk]), List.filter_nil, List.append_nil]
  exact hO
theorem Inn.take {w9 wr w10 : World} {K : List (List UInt8)} {key s : List UInt8} {pos e q : Nat} {v v2 : Value} {ob : Obj} (h1 : pos ≤ q) (h2 : q < e) (hs : K[q]? = some s) (hsk : s ≠ key) (hB : Below w9.heap.size w9 wr)
    (hO : Own w10 9 v2 ((((K.take q).drop pos).filter (fun s => decide (s ≠ key))).map encStr ++ [.string ⟨s.toArray⟩])) (hgr : (wr.alloc ob).grownBy w10 v.ownBlock)
    (hb : ∃ g', v2.ownBlock = some g' ∧ (v.ownBlock = some g' ∨ (wr.alloc ob).heap.size ≤ g')) (hG : ∀ g, v.ownBlock = some g → w9.heap.size ≤ g) : Inn w9 K key pos e (e - (q + 1)) v2 (.int .i64 ((q : Int) + 1)) w10 := by
  refine ⟨q + 1, rfl, by omega, by omega, Nat.le_refl _, ?_, ?_, ?_⟩
  · refine Ext.below hB ((Ext.alloc wr ob).trans (Ext.grown hgr)) hB.size (fun k _ h => ?_)
    rcases h with h | h
    · exact h.elim
    · exact hG k h
  · rw [step_list h1 hs, List.filter_append, List.filter_cons, if_pos (by simp [hsk]), List.filter_nil, List.map_append]
    exact hO
  · intro g hg
    obtain ⟨g', hg', h⟩ := hb
    rw [hg'] at hg; injection hg with hg; subst hg
    rcases h with h | h
    · exact hG _ h
    · have := hB.size; simp at h; omega

theorem equal_c (g1 g2 n c1 c2 : Nat) (r : List (List UInt8)) (w : World) (h1 : Kb w g1 r) (h2 : Kb w g2 r) (hn : r.length = n) (hb : n ≤ 1048576) :
    Calls Yba.prog 11 #[.slice (some ⟨g1, 0, none⟩) n c1, .slice (some ⟨g2, 0, none⟩) n c2] w fun e w' => e = .returned (.bool true) ∧ ∃ q, w' = w.drewN q := by
  subst hn
  have key : ∀ g, Kb w g r → ∀ j, j < (r.map fun s => (⟨s.toArray⟩ : ByteArray)).length → w.cell? ⟨g, 0 + j, none⟩ = some (.string ((r.map fun s => (⟨s.toArray⟩ : ByteArray)).getD j ByteArray.empty)) := by
    intro g hg j hj
    rw [List.length_map] at hj
    rw [Nat.zero_add, hg.cell j hj, getD_lt _ _ (by simpa using hj), List.getElem_map]
  refine (Yba.slices_Equal_string g1 0 r.length c1 g2 0 r.length c2 (r.map fun s => ⟨s.toArray⟩) (r.map fun s => ⟨s.toArray⟩) w (by simp) (by simp) (by omega) (by omega) (key g1 h1) (key g2 h2)).mono ?_
  rintro e w' ⟨rfl, hq⟩
  exact ⟨by simp, hq⟩
theorem RunOk.kb {w : World} {x : Rn} (h : RunOk w x) : Kb w x.g x.run := by
  obtain ⟨_, _, _, _, cur, h1, h2⟩ := h
  exact ⟨cur, h1, h2⟩
theorem below_ext {w9 wr : World} (h : Below w9.heap.size w9 wr) : Ext (fun _ => False) w9 wr := (Ext.of_below h).mono (fun k hk e => by omega)

/-- where the keys stand -/
def CutK (w : World) (s : Value) (wc : World) : Prop := ∃ (K : List (List UInt8)) (kb cap : Nat), s = .slice (some ⟨kb, 0, none⟩) K.length cap ∧ 0 < K.length ∧ K.length ≤ 65536 ∧ K.length ≤ cap ∧ K.Pairwise (· < ·) ∧ Kb wc kb K ∧ Below w.heap.size w wc

set_option maxHeartbeats 4000000 in
set_option maxRecDepth 1000000 in
theorem lawB_any (p q : Option Addr) (raw : List (List UInt8)) (rc zn zc pk : Nat) (w : World) (hr : raw.length ≤ 65536) (hz : zn ≤ 65536)
    (hraw : 0 < raw.length → ∃ a, p = some a ∧ ∀ j s, raw[j]? = some s → w.cell? (a.add j) = some (encStr s))
    (hsz : ∀ j, j < zn → ∃ (b : Addr) (u : Nat), q = some b ∧ u < 256 ∧ w.cell? (b.add j) = some (.int .u8 u)) (hpk : pk < 18446744073709551616) :
    Calls Yba.prog 4 #[.slice p raw.length rc, .slice q zn zc, .int .u64 pk] w fun e w' => e = .returned (.bool true) ∧ Below w.heap.size w w' := by
  obtain ⟨i9, hi9, hz9, hs9, hb9⟩ := inf9
  obtain ⟨i26, hi26, hz26, hs26, hb26⟩ := inf26
  have f1 : decide ((65536 : Int) < (raw.length : Int)) = false := decide_eq_false (by omega)
  have f2 : decide ((65536 : Int) < (zn : Int)) = false := decide_eq_false (by omega)
  have HRAW := hide hraw
  have HSZ := hide hsz
  obtain ⟨K0, hK0⟩ : ∃ K0, K0 = Lib.compact (raw.mergeSort fun x y => decide (x ≤ y)) := ⟨_, rfl⟩
  have HK0 := hide hK0
  clear hraw hsz hK0
  generalize hrl : raw.length = rn at *
  have hK0l : K0.length ≤ rn := by rw [HK0.out]; have := Lib.compact_length_le (raw.mergeSort fun x y => decide (x ≤ y)); rw [List.length_mergeSort] at this; omega
  have HK0s : Hid (K0.Pairwise (· < ·)) := by rw [HK0.out]; exact compact_sorted _ (sort_pair raw)
  have HTK : Hid (List.take raw.length (raw.map encStr) = raw.map encStr) := List.take_of_length_le (by simp)
  go_enter Yba.func4, Yba.ntmps4
  go_upto_if 40 with (first
      | (at_make; refine wpList_make_full _ rfl _ _ 26 rfl w.heap.size 9 i9 _ 1 Yba.underlying26 hi9 hz9 hs9 _ _ _ _ rn rfl rfl rfl rfl (by rw [hb9]; omega) (by unfold maxLen; omega) (Nat.le_refl _) ?_; intro w1 hown1 hgrow1; have PRE := prep (rc := rc) hown1 hgrow1 hrl HRAW.out; obtain ⟨w2, hcopy, b2, e2⟩ := PRE.out; have B2 := hide b2; have E2 := hide e2; clear hown1 hgrow1 PRE b2 e2)
      | (go_at_call 8; refine (sort_c w.heap.size rn raw w2 ⟨_, B2.out, HTK.out⟩ hrl hr).mono ?_; rintro e w3 ⟨rfl, b3, e3⟩; have B3 := hide b3; have E3 := hide e3; clear b3 e3)
      | (go_at_call 9; refine (compact_c w.heap.size rn _ w3 B3.out (by rw [List.length_mergeSort]; exact hrl) hr).mono ?_; rintro e w4 ⟨rfl, b4, e4⟩; rw [← HK0.out] at b4 ⊢; have B4 := hide b4; have E4 := hide e4; clear b4 e4))
  go_cut [7] (fun s7 wc => CutK w s7 wc)
  case first =>
    have e4 : Ext (fun k => k = w.heap.size) w w4 := ((E2.out.trans E3.out).trans E4.out).mono (fun k _ h => by rcases h with (h | h) | h; exact h.elim; exact h; exact h)
    have below4 := Ext.below (Below.refl w.heap.size w) e4 (Nat.le_refl _) (fun k _ e => by omega)
    have HE4 := hide e4
    have HBL := hide below4
    clear e4 below4
    go_wp2
    · go_meet
      case rel => exact ⟨[[107]], w4.heap.size, 1, rfl, Nat.zero_lt_one, by simp, Nat.le_refl _, by simp, ⟨_, Blk.new w4 _ 9, rfl⟩, HBL.out.alloc HBL.out.size _⟩
    · rename_i hk0
      go_meet
      case rel =>
        refine ⟨K0, w.heap.size, rn, rfl, ?_, by omega, hK0l, HK0s.out, B4.out, HBL.out⟩
        rw [beq_eq_false_iff_ne] at hk0
        omega
  case rest =>
    obtain ⟨K, kb, cap, rfl, hKp, hK64, hKcap, hKs, ⟨kc, hkc, hkt⟩, hbl⟩ := hcut
    obtain ⟨I, hI⟩ : ∃ I, pk % K.length = I := ⟨_, rfl⟩
    have hIl : I < K.length := by rw [← hI]; exact Nat.mod_lt _ hKp
    obtain ⟨key, hkey⟩ : ∃ key, K[I] = key := ⟨_, rfl⟩
    have HKC : Hid (∀ w', Blk w' kb kc 9 → ∀ j s, K[j]? = some s → w'.cell? ⟨kb, j, none⟩ = some (.string ⟨s.toArray⟩)) := by
      intro w' hw j s hj
      obtain ⟨hj', rfl⟩ := List.getElem?_eq_some_iff.1 hj
      exact Kb.cell ⟨kc, hw, hkt⟩ j hj'
    have cI : wc.cell? ⟨kb, I, none⟩ = some (.string ⟨key.toArray⟩) := HKC.out wc hkc I key (by rw [List.getElem?_eq_getElem hIl, hkey])
    have HKS := hide hKs
    have HKT := hide hkt
    have HBLK := hide hkc
    have HBW := hide hbl
    have HKEY : Hid (K[I]? = some key) := by rw [List.getElem?_eq_getElem hIl, hkey]; rfl
    clear hKs hkt hkc hbl hkey
    generalize hKl : K.length = n at *
    have hII : (pk : Int) % (n : Int) = (I : Int) := by rw [← hI]; simp
    go_wp2
    have hst := rel_start (K := K) (key := key) HBLK.out HBW.out
    rw [hKl] at hst
    have HST := hide hst
    clear hst
    have hlt0 := HBW.out.size
    generalize wc.heap.size = bx at *
    generalize wc.alloc (.cells #[.slice none 0 0] 32) = w5 at *
    rw [hII]
    clear hII hI
    go_loopg [11, 12, 13] n (fun f vw sp sr wr => Rel w K key kb kc bx f vw sp sr wr)
    case atStart => exact HST.out
    case round =>
      obtain ⟨pos, r, vs, S, W, rfl, rfl, hpos, hrp, hf, hM, hP⟩ := hrel
      have HM := hide hM
      have HP := hide hP
      clear hM hP
      rw [hKl] at hpos hf
      by_cases hpn : pos < n
      · go_upto_if 57 with fail
        go_cut [14] (fun s14 wx => (∃ sz : Nat, s14 = .int .i64 sz ∧ 1 ≤ sz ∧ sz ≤ 8) ∧ wx = wr)
        case first =>
          by_cases hzn : zn = 0
          · go_wp2
            go_meet
            case rel => exact ⟨⟨3, rfl, by omega, by omega⟩, rfl⟩
          · obtain ⟨j, hj⟩ : ∃ j, r % zn = j := ⟨_, rfl⟩
            have hjl : j < zn := by rw [← hj]; exact Nat.mod_lt _ (by omega)
            obtain ⟨b, u, rfl, hu, hcu⟩ := HSZ.out j hjl
            have hcu' : wr.cell? (b.add j) = some (.int .u8 u) := by
              rw [HM.out.below.cell (World.block_lt_of_cell? _ _ hcu)]; exact hcu
            have hji : (r : Int) % (zn : Int) = (j : Int) := by rw [← hj]; simp
            obtain ⟨v8, hv8⟩ : ∃ v8, u % 8 = v8 := ⟨_, rfl⟩
            have hvi : (u : Int) % 8 = (v8 : Int) := by rw [← hv8]; simp
            have hv8l : v8 < 8 := by omega
            clear hcu
            go_wp2
            go_meet
            case rel => exact ⟨⟨v8 + 1, by go_num, by omega, by omega⟩, rfl⟩
        case rest =>
          obtain ⟨⟨sz, rfl, hs1, hs8⟩, rfl⟩ := hcut
          obtain ⟨e, he⟩ : ∃ e, min (pos + sz) n = e := ⟨_, rfl⟩
          have he1 : pos < e := by omega
          have he2 : e ≤ n := by omega
          have he3 : min ((pos : Int) + (sz : Int)) (n : Int) = (e : Int) := by omega
          have he4 : (e : Int) - (pos : Int) = ((e - pos : Nat) : Int) := by omega
          have hcb := HM.out.box.cell 0
          have hrun : ((K.take e).drop pos).length = e - pos := by simp; omega
          obtain ⟨x, hx⟩ : ∃ x : Rn, x = ⟨wc.heap.size, e - pos, (K.take e).drop pos⟩ := ⟨_, rfl⟩
          have hxh : Hid (x.hd = .slice (some ⟨wc.heap.size, 0, none⟩) (e - pos) (e - pos)) := by show x.hd = _; rw [hx]; simp only [Rn.hd, hrun]
          have hSl := HP.out.lenS
          have hWl := HP.out.lenW
          have HX := hide hx
          have HRUN := hide hrun
          clear hx hrun
          go_wp2_with (first
            | (at_make; refine wpList_make_full _ rfl _ _ 26 rfl wc.heap.size 9 i9 _ 1 Yba.underlying26 hi9 hz9 hs9 _ _ _ _ (e - pos) rfl rfl (by omega) (by omega) (by rw [hb9]; omega) (by unfold maxLen; omega) (Nat.le_refl _) ?_; intro w6 hown6 hgrow6; have PRE := prep2 (cap := cap) (pos := pos) (e := e) hown6 hgrow6 HM.out.keys (by omega) HKC.out; obtain ⟨w7, hcopy7, b7, e7⟩ := PRE.out; have hcb7 := (HM.out.box.ext e7 id).cell 0; have B7 := hide b7; have E7 := hide e7; clear hown6 hgrow6 PRE b7 e7)
            | (at_builtin; refine wpList_append_one rfl _ _ 32 rfl 26 i26 _ 24 Yba.underlying32 hi26 hz26 hs26 hb26 rfl vs (S.map Rn.hd) rfl ((HM.out.ownS.ext E7.out (fun _ _ => id)).ext (Ext.alloc _ _) (fun _ _ => id)) ⟨w7.heap.size, 0, none⟩ x.hd rfl (by rw [hxh.out]; exact new_cell _ _ _) rfl (by rw [hxh.out]; rfl) (by rw [List.length_map]; unfold maxLen; omega) (by rw [List.length_map]; omega) ?_; intro vs2 w8 hown8 hgrow8 hb8; obtain ⟨g8, c8, rfl⟩ := own_form hown8; rw [List.length_map] at hown8 hb8 ⊢; have b8 := HM.out.box3 E7.out hgrow8; have hcb8 := b8.cell 0; have hfb8 := b8.frozen 0; have HOWN8 := hide hown8; have HGR8 := hide hgrow8; clear hown8 hgrow8 b8))
          have hM9 := HM.out.addS E7.out x (by rw [HX.out]; exact Nat.le_refl _) (by rw [HX.out]; refine ⟨fun h0 => ?_, ?_, ?_, ?_, _, B7.out, ?_⟩; (have := HRUN.out; simp only at h0; rw [h0] at this; simp at this; omega); (show _ ≤ _; rw [HRUN.out]; omega); (show _ ≤ _; rw [HRUN.out]; exact Nat.le_refl _); (show e - pos ≤ maxLen; unfold maxLen; omega); (simp only []; exact List.take_of_length_le (by simp))) (by rw [List.map_append]; exact HOWN8.out) HGR8.out hb8.out
          have HM9 := hide hM9
          have hcb9 := hM9.box.cell 0
          clear hM9
          generalize w8.setCell ⟨bx, 0, none⟩ (.slice (some ⟨g8, 0, none⟩) (S.length + 1) c8) = w9 at *
          clear hcb hcb7 hcb8 hfb8 hcopy7
          go_loopg [17, 18] (e - pos) (fun f v sq wx => Inn w9 K key pos e f v sq wx)
          case atStart => exact ⟨pos, rfl, Nat.le_refl _, by omega, Nat.le_refl _, Below.refl _ _, .inl ⟨rfl, by rw [List.drop_eq_nil_of_le (by simp; omega)]; rfl⟩, fun g h => nomatch h⟩
          case round =>
            obtain ⟨q', rfl, hq1, hq2, hqf, hB, hO, hG⟩ := hrel
            have HB := hide hB
            have HO := hide hO
            have HG := hide hG
            clear hB hO hG
            by_cases hqe : q' < e
            · obtain ⟨s, hs⟩ : ∃ s, K[q']'(by omega) = s := ⟨_, rfl⟩
              have hs' : K[q']? = some s := by rw [List.getElem?_eq_getElem (by omega), hs]
              have cq : wr.cell? ⟨kb, q', none⟩ = some (.string ⟨s.toArray⟩) := HKC.out wr (Blk.below HB.out HM9.out.keys HM9.out.keys.lt) q' s hs'
              have HS := hide hs'
              have HLN : Hid (((((K.take q').drop pos).filter (fun s => decide (s ≠ key))).map encStr).length ≤ 65536) := Nat.le_trans filt_len (by omega)
              clear hs hs'
              by_cases hsk : s = key
              · have HSK := hide hsk
                rw [hsk] at cq
                clear hsk
                go_wp2
                go_roundg (e - (q' + 1))
                case measure => omega
                case rel => exact Inn.skip hq1 hqe HS.out HSK.out HB.out HO.out HG.out
              · have HSK := hide hsk
                have hne : (s == key) = false := beq_eq_false_iff_ne.2 hsk
                clear hsk
                go_wp2_with (at_builtin; refine wpList_append_one rfl _ _ 26 rfl 9 i9 _ 16 Yba.underlying26 hi9 hz9 hs9 hb9 rfl u17 _ rfl (HO.out.ext (Ext.alloc _ _) (fun _ _ => id)) ⟨wr.heap.size, 0, none⟩ (.string ⟨s.toArray⟩) rfl (new_cell _ _ _) rfl rfl (by have := HLN.out; unfold maxLen; omega) (by have := HLN.out; omega) ?_; intro v10 w10 hown10 hgrow10 hb10; have HOWN10 := hide hown10; have HGR10 := hide hgrow10; clear hown10 hgrow10)
                go_roundg (e - (q' + 1))
                case measure => omega
                case rel => exact Inn.take hq1 hqe HS.out HSK.out HB.out HOWN10.out HGR10.out hb10.out HG.out
            · obtain rfl : q' = e := by omega
              have hMr := HM9.out.ext (below_ext HB.out)
              have HMR := hide hMr
              have hO := HO.out
              have hyl := HLNe K key pos q'
              obtain ⟨ys, hys⟩ : ∃ ys, ((K.take q').drop pos).filter (fun s => decide (s ≠ key)) = ys := ⟨_, rfl⟩
              rw [hys] at hO hyl
              have HYS := hide hys
              clear hys hMr
              have hxr : Hid (x.run = (K.take q').drop pos) := by show x.run = _; rw [HX.out]
              by_cases hy0 : ys = []
              · have hPn := HP.out.none (e := q') (by omega) x hxr.out (by rw [hxr.out, HYS.out, hy0])
                have HPN := hide hPn
                clear hPn
                have hv : ∃ (a : Option Addr) (c : Nat), u17 = .slice a 0 c := by
                  rcases hO with ⟨rfl, _⟩ | ⟨g, c, cur, rfl, _⟩
                  · exact ⟨_, _, rfl⟩
                  · exact ⟨_, _, by rw [hy0]; rfl⟩
                obtain ⟨a17, c17, rfl⟩ := hv
                clear hO
                go_wp2
                go_roundg (n - q')
                case measure => omega
                case rel => exact ⟨q', r + 1, _, S ++ [x], W, rfl, by go_num, by omega, by omega, by omega, HMR.out, HPN.out⟩
              · rcases hO with ⟨_, h0⟩ | ⟨g17, c17, cur, hv, hb17, hc1, hc2, hc3, hc4⟩
                · exact absurd (List.map_eq_nil_iff.1 h0) hy0
                · rw [List.length_map] at hv hc1 hc4
                  subst hv
                  have hgl : w9.heap.size ≤ g17 := HG.out g17 rfl
                  obtain ⟨y, hy⟩ : ∃ y : Rn, y = ⟨g17, c17, ys⟩ := ⟨_, rfl⟩
                  have hyh : Hid (y.hd = .slice (some ⟨g17, 0, none⟩) ys.length c17) := by show y.hd = _; rw [hy]; rfl
                  have hyok : Hid (RunOk wr y) := by
                    rw [hy]; exact ⟨hy0, by show ys.length ≤ _; omega, hc1, hc2, cur, hb17, hc4⟩
                  have hyS : Hid (∀ z ∈ S ++ [x], z.g ≠ y.g) := by
                    intro z hz e
                    have := HM9.out.lt9.1 z hz
                    rw [e, hy] at this
                    simp only at this
                    omega
                  have hPs := HP.out.some (e := q') (by omega) x y hxr.out (by rw [hxr.out, HYS.out, hy]) (by rw [hy]; exact hy0)
                  have HPS := hide hPs
                  have hylp : 0 < ys.length := List.length_pos_iff.2 hy0
                  clear hPs hy hb17 hc4 hc3
                  go_wp2_with (at_builtin; refine wpList_append_one rfl _ _ 31 rfl 26 i26 _ 24 Yba.underlying31 hi26 hz26 hs26 hb26 rfl u11 (W.map Rn.hd) rfl (HMR.out.ownW.ext (Ext.alloc _ _) (fun _ _ => id)) ⟨wr.heap.size, 0, none⟩ y.hd rfl (by rw [hyh.out]; exact new_cell _ _ _) rfl (by rw [hyh.out]; rfl) (by rw [List.length_map]; unfold maxLen; omega) (by rw [List.length_map]; omega) ?_; intro v11 w11 hown11 hgrow11 hb11; have HOWN11 := hide hown11; have HGR11 := hide hgrow11; clear hown11 hgrow11)
                  go_roundg (n - q')
                  case measure => omega
                  case rel => exact ⟨q', r + 1, _, S ++ [x], W ++ [y], rfl, by go_num, by omega, by omega, by omega, HMR.out.addW y hyS.out hyok.out (by rw [List.map_append]; exact HOWN11.out) HGR11.out hb11.out, HPS.out⟩
      · obtain rfl : pos = n := by omega
        have hflat : (S.map Rn.run).flatten = K := by rw [HP.out.flat, List.take_of_length_le (by omega)]
        have hkm : key ∈ (S.map Rn.run).flatten := by rw [hflat]; exact List.mem_of_getElem? HKEY.out
        have hvs := HM.out.ownS
        rcases hvs with ⟨_, h0⟩ | ⟨o, c, cur, rfl, hb, hc1, hc2, hc3, hc4⟩
        · rw [List.map_eq_nil_iff] at h0
          rw [h0] at hkm
          simp at hkm
        · rw [List.length_map] at hc1 hc4
          have hbox := HM.out.box
          rw [List.length_map] at hbox
          have hSl := HP.out.lenS
          have hrem := remove_any bx o c S key wr hbox cur hb hc4 hc3 hc1 hc2 (by omega) (fun y hy => (HM.out.okS y hy).1) HM.out.nodup (by rw [hflat]; exact HKS.out) hkm
          rw [← HP.out.want] at hrem
          have HREM := hide hrem
          have hcb := hbox.cell 0
          have hWl := HP.out.lenW
          have hvw : ∃ (a : Option Addr) (c : Nat), u11 = .slice a W.length c ∧ (0 < W.length → ∃ (wo : Nat) (cw : Array Value), a = some ⟨wo, 0, none⟩ ∧ Blk wr wo cw 26 ∧ cw.toList.take W.length = W.map Rn.hd) := by
            rcases HM.out.ownW with ⟨rfl, h0⟩ | ⟨wo, cc, cw, rfl, hbw, _, _, _, hcw⟩
            · rw [List.map_eq_nil_iff] at h0
              subst h0
              exact ⟨none, 0, rfl, fun h => absurd h (by simp)⟩
            · rw [List.length_map] at hcw ⊢
              exact ⟨_, _, rfl, fun _ => ⟨wo, cw, rfl, hbw, hcw⟩⟩
          obtain ⟨aw, cw', rfl, hvw⟩ := hvw
          have HVW := hide hvw
          have HB0 := hide hb
          clear hrem hbox hflat hkm hvw hb hc4
          go_wp2_with (go_at_call 10; (refine HREM.out.mono ?_; rintro e w20 ⟨rfl, hrm⟩; obtain ⟨R', hruns, hbox', ⟨cur', hcur', htk'⟩, hok', hext⟩ := hrm; have hRW : R'.length = W.length := (by have := congrArg List.length hruns; simpa using this); rw [hRW] at hbox' htk'; have hcb2 := hbox'.cell 0; have HRU := hide hruns; have HC2 := hide hcur'; have HT2 := hide htk'; have HOK2 := hide hok'; have HEX := hide hext; clear hruns hbox' hcur' htk' hok' hext))
          have HVW2 : Hid (∀ i, i < W.length → ∃ wo gx cx gy cy len rr, aw = some ⟨wo, 0, none⟩ ∧ w20.cell? ⟨wo, i, none⟩ = some (.slice (some ⟨gy, 0, none⟩) len cy) ∧ w20.cell? ⟨o, i, none⟩ = some (.slice (some ⟨gx, 0, none⟩) len cx) ∧ Kb w20 gx rr ∧ Kb w20 gy rr ∧ rr.length = len ∧ 0 < len ∧ len ≤ 1048576) := by
            intro i hi
            obtain ⟨wo, cw, rfl, hbw, hcw⟩ := HVW.out (by omega)
            have hn1 : ¬ (wo = bx ∨ wo = o ∨ wo ∈ S.map Rn.g) := by
              rintro (h | h | h)
              · exact hbw.ne HM.out.box (by decide) h
              · exact HM.out.apart o rfl (by rw [← h]; rfl)
              · obtain ⟨y, hy, h⟩ := List.mem_map.1 h
                obtain ⟨cy, hcy⟩ := (HM.out.okS y hy).1.blk
                exact hbw.ne hcy (by decide) h.symm
            have hw := hbw.ext HEX.out hn1
            have hWi : W[i] ∈ W := List.getElem_mem hi
            have hn2 : ¬ (W[i].g = bx ∨ W[i].g = o ∨ W[i].g ∈ S.map Rn.g) := by
              obtain ⟨cy, hcy⟩ := (HM.out.okW _ hWi).blk
              rintro (h | h | h)
              · exact hcy.ne HM.out.box (by decide) h
              · exact hcy.ne HB0.out (by decide) h
              · obtain ⟨y, hy, h⟩ := List.mem_map.1 h
                exact HM.out.apartR y hy _ hWi h
            have hiR : i < R'.length := by omega
            have hrr : R'[i].run = W[i].run := by
              have h1 : (R'.map Rn.run)[i]? = (W.map Rn.run)[i]? := by rw [HRU.out]
              simp only [List.getElem?_map, List.getElem?_eq_getElem hi, List.getElem?_eq_getElem hiR, Option.map_some, Option.some.injEq] at h1
              exact h1
            have hok := HOK2.out _ (List.getElem_mem hiR)
            refine ⟨wo, R'[i].g, R'[i].cap, W[i].g, W[i].cap, R'[i].run.length, R'[i].run, rfl, ?_, ?_, hok.kb, ?_, rfl, List.length_pos_iff.2 hok.1, hok.2.1⟩
            · rw [hw.cell, take_cell (L := W.map Rn.hd) (by simpa using hcw) i (by simpa using hi), List.getElem_map, hrr, Rn.hd]
            · rw [HC2.out.cell, take_cell (L := R'.map Rn.hd) (by have := HT2.out; rw [← hRW] at this; simpa using this) i (by simp; omega), List.getElem_map, Rn.hd]
            · rw [hrr]; exact (HM.out.okW _ hWi).kb.ext HEX.out hn2
          have hBf : Below w.heap.size w w20 := Ext.below HM.out.below HEX.out HM.out.le (fun k _ h => by
            rcases h with rfl | rfl | h
            · exact HM.out.Bbx
            · exact HM.out.Bs k rfl
            · obtain ⟨y, hy, rfl⟩ := List.mem_map.1 h
              exact (HM.out.okS y hy).2)
          have HBF := hide hBf
          clear hBf
          go_loopg [19] W.length (fun f sq wx => ∃ i : Nat, sq = .int .i64 i ∧ i ≤ W.length ∧ W.length - i ≤ f ∧ ∃ qn, wx = w20.drewN qn)
          case atStart => exact ⟨0, rfl, Nat.zero_le _, by omega, 0, rfl⟩
          case round =>
            obtain ⟨i, rfl, hi1, hi2, qn, rfl⟩ := hrel
            by_cases him : i < W.length
            · obtain ⟨wo, gx, cx, gy, cy, len, rr, hao, c1, c2, k1, k2, k3, k4, k5⟩ := HVW2.out i him
              subst hao
              have hcb3 : (w20.drewN qn).cell? ⟨bx, 0, none⟩ = some (.slice (some ⟨o, 0, none⟩) W.length c) := hcb2
              have c1' : (w20.drewN qn).cell? ⟨wo, i, none⟩ = some (.slice (some ⟨gy, 0, none⟩) len cy) := c1
              have c2' : (w20.drewN qn).cell? ⟨o, i, none⟩ = some (.slice (some ⟨gx, 0, none⟩) len cx) := c2
              have k1' := k1.ext (Ext.drewN w20 qn) id
              have k2' := k2.ext (Ext.drewN w20 qn) id
              obtain ⟨wl, hwl⟩ : ∃ wl, wl = w20.drewN qn := ⟨_, rfl⟩
              rw [← hwl] at hcb3 c1' c2' k1' k2' ⊢
              have HEQ : Hid (∀ q, Calls Yba.prog 11 #[.slice (some ⟨gx, 0, none⟩) len cx, .slice (some ⟨gy, 0, none⟩) len cy] (wl.drewN q) fun e w' => e = .returned (.bool true) ∧ ∃ m, w' = (wl.drewN q).drewN m) := fun q => equal_c gx gy len cx cy rr _ (k1'.ext (Ext.drewN _ _) id) (k2'.ext (Ext.drewN _ _) id) k3 k5
              have HWL := hide hwl
              clear k1 k2 k3 k1' k2' hwl c1 c2 hcb2
              go_wp2_with fail
              go_quiet ((go_at_call 11; exact Calls.quiet_of (HEQ.out _)))
              go_wp2_with fail
              go_roundg (W.length - (i + 1))
              case measure => omega
              case rel => exact ⟨i + 1, by go_num, by omega, by omega, _, by rw [HWL.out, World.drewN_drewN]⟩
            · go_wp2
              go_ret
              exact ⟨rfl, ⟨HBF.out.os, HBF.out.tape, HBF.out.output, HBF.out.size, HBF.out.block⟩⟩
end Go.Proofs.YbulkdtuwB
