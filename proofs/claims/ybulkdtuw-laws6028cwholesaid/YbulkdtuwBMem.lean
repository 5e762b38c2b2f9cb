import Derived.Below
import Derived.Laws.NewBlocks
import Derived.Laws.AppendOwn
import Derived.Laws.AppendOwnNone
import Derived.Laws.CopyOwn
import Derived.Laws.MakeOwn
import Derived.WalkKit
import Derived.ProofKit
import Derived.Deep.QuietTactic
import Derived.BigQuiet
import Derived.WalkLawsBesides
import Derived.WalkSpells
import Derived.Sort.Row
import Derived.Sort.Grow
namespace Go.Proofs.YbulkdtuwB
open Go.RowKit Go.Sort

theorem hide {p : Prop} (h : p) : Hid p := h
theorem unhide {p : Prop} (h : Hid p) : p := h

/-- block b holds just these cells -/
def Blk (w : World) (b : Nat) (c : Array Value) (t : TypeId) : Prop := w.heap[b]? = some (.cells c t (0, 0))

theorem Blk.lt {w : World} {b : Nat} {c : Array Value} {t : TypeId} (h : Blk w b c t) : b < w.heap.size := by
  unfold Blk at h
  rcases Nat.lt_or_ge b w.heap.size with h' | h'
  · exact h'
  · rw [Array.getElem?_eq_none h'] at h; cases h
theorem Blk.cell {w : World} {b : Nat} {c : Array Value} {t : TypeId} (h : Blk w b c t) (i : Nat) : w.cell? ⟨b, i, none⟩ = c[i]? := by
  unfold Blk at h; simp [World.cell?, h]
theorem Blk.frozen {w : World} {b : Nat} {c : Array Value} {t : TypeId} (h : Blk w b c t) (i : Nat) : w.frozen? ⟨b, i, none⟩ = false := by
  unfold Blk at h; simp [World.frozen?, h]
theorem Blk.drew {w : World} {b : Nat} {c : Array Value} {t : TypeId} (h : Blk w b c t) : Blk w.drew b c t := h
theorem Blk.new (w : World) (c : Array Value) (t : TypeId) : Blk (w.alloc (.cells c t)) w.heap.size c t := by
  unfold Blk; show (w.heap.push _)[w.heap.size]? = _; simp
theorem Blk.alloc {w : World} {b : Nat} {c : Array Value} {t : TypeId} (h : Blk w b c t) (o : Obj) : Blk (w.alloc o) b c t := by
  unfold Blk; rw [Below.heap_alloc _ _ _ h.lt]; exact h
theorem Blk.other {w : World} {b : Nat} {c : Array Value} {t : TypeId} (h : Blk w b c t) (a : Addr) (v : Value) (hb : b ≠ a.block) : Blk (w.setCell a v) b c t := by
  unfold Blk; rw [Below.heap_setCell _ _ _ _ hb]; exact h
theorem Blk.same {w : World} {b : Nat} {c : Array Value} {t : TypeId} (h : Blk w b c t) (i : Nat) (v : Value) : Blk (w.setCell ⟨b, i, none⟩ v) b (c.setIfInBounds i v) t := by
  unfold Blk at h ⊢
  simp only [World.setCell, Array.getElem?_modify, ↓reduceIte, h, Option.map_some]
  rfl
theorem Blk.below {B : Nat} {w w' : World} (hb : Below B w w') {b : Nat} {c : Array Value} {t : TypeId} (h : Blk w b c t) (hB : b < B) : Blk w' b c t := by
  unfold Blk; rw [hb.block b hB]; exact h
theorem Blk.grown {w w' : World} {row : Option Nat} (hg : w.grownBy w' row) {b : Nat} {c : Array Value} {t : TypeId} (h : Blk w b c t) (hr : some b ≠ row) : Blk w' b c t := by
  unfold Blk; rw [hg.block b h.lt hr]; exact h
theorem Blk.drewN {w : World} {b : Nat} {c : Array Value} {t : TypeId} (h : Blk w b c t) (n : Nat) : Blk (w.drewN n) b c t := by
  unfold Blk; exact h

theorem Blk.ne {w : World} {a b : Nat} {c d : Array Value} {t u : TypeId} (h : Blk w a c t) (k : Blk w b d u) (htu : t ≠ u) : a ≠ b := by
  rintro rfl
  unfold Blk at h k
  rw [h] at k
  injection k with k
  injection k with k1 k2
  exact htu k2
theorem Blk.eq {w : World} {a : Nat} {c d : Array Value} {t u : TypeId} (h : Blk w a c t) (k : Blk w a d u) : c = d := by
  unfold Blk at h k
  rw [h] at k
  injection k with k
  injection k with k1 k2
theorem Blk.of {w w' : World} {b : Nat} {c : Array Value} {t : TypeId} (h : Blk w b c t) (e : w'.heap[b]? = w.heap[b]?) : Blk w' b c t := by
  unfold Blk; rw [e]; exact h
/-- a row of cells of one block, put anew -/
theorem Blk.put {α : Type} [Inhabited α] {enc : α → Value} {w : World} {b : Nat} {c : Array Value} {t : TypeId} (h : Blk w b c t) (d : Array α) : Blk (putRow enc w b 0 d) b (putCells enc 0 d c) t := by
  unfold Blk putRow mapBlock at *
  simp only [Array.getElem?_modify, ↓reduceIte, h, Option.map_some]
  rfl
theorem Blk.putOther {α : Type} [Inhabited α] {enc : α → Value} {w : World} {b g : Nat} {c : Array Value} {t : TypeId} (h : Blk w b c t) (d : Array α) (hb : b ≠ g) : Blk (putRow enc w g 0 d) b c t := by
  unfold Blk putRow mapBlock at *
  simp only [Array.getElem?_modify, Ne.symm hb, ↓reduceIte, h]
theorem Blk.ahead {w : World} {b : Nat} {c : Array Value} {t : TypeId} (h : Blk w b c t) (n : Nat) : Blk (Sort.ahead w n) b c t := by
  unfold Blk; exact h
theorem Blk.grow {w : World} {b : Nat} {c : Array Value} {t : TypeId} (h : Blk w b c t) (os : Array Obj) : Blk (Sort.grow w os) b c t := by
  unfold Blk; rw [Sort.heap_grow_old w os h.lt]; exact h

/-- v is a slice whose elements (a cell each, of type e) are xs, at the head of a block of its own -/
def Own (w : World) (e : TypeId) (v : Value) (xs : List Value) : Prop :=
  (v = .slice none 0 0 ∧ xs = []) ∨
  ∃ g cap cur, v = .slice (some ⟨g, 0, none⟩) xs.length cap ∧ Blk w g cur e ∧ xs.length ≤ cap ∧ cap ≤ maxLen ∧ cur.size = cap ∧ cur.toList.take xs.length = xs

theorem Own.row {w : World} {e : TypeId} {v : Value} {xs : List Value} (h : Own w e v xs) : w.ownsRow 0 e 1 v xs.length xs := by
  refine ⟨by simp, ?_⟩
  rcases h with ⟨rfl, rfl⟩ | ⟨g, cap, cur, rfl, hb, h1, h2, h3, h4⟩
  · exact .inl ⟨rfl, rfl⟩
  · exact .inr ⟨g, cap, cur, rfl, Nat.zero_le _, hb, h1, h2, by omega, by simpa using h4⟩

theorem Own.kept {w w' : World} {e : TypeId} {v : Value} {xs : List Value} (h : Own w e v xs) (hk : ∀ g, v.ownBlock = some g → w'.heap[g]? = w.heap[g]?) : Own w' e v xs := by
  rcases h with h | ⟨g, cap, cur, rfl, hb, h⟩
  · exact .inl h
  · exact .inr ⟨g, cap, cur, rfl, hb.of (hk g rfl), h⟩

/-- one element more: the same block, or a new one -/
theorem run_append_one {P : Program} {w : World} {t ty e : TypeId} {i : TypeInfo} {z : Value} {bytes : Nat} (ht : P.underlying t = some (.slice e)) (hi : P.info? e = some i) (hz : i.zero = some z)
    (hsize : i.size = 1) (hby : i.bytes = bytes) (hzs : z.cells.size = 1) {v : Value} {xs : List Value} (hown : Own w e v xs)
    (a : Addr) (u : Value) (hnew : w.cell? a = some u) (ha : a.spot = none) (h1 : u.oneCell' = true) (h63 : xs.length + 1 ≤ maxLen) (hbytes : (xs.length + 1) * bytes ≤ 140737488355328) :
    ∃ v' w', (Builtin.append_ #[t, t] ty #[v, .slice (some a) 1 1]).run P w = .ok v' w' ∧ Own w' e v' (xs ++ [u]) ∧ w.grownBy w' v.ownBlock ∧
      (∃ g', v'.ownBlock = some g' ∧ (v.ownBlock = some g' ∨ w.heap.size ≤ g')) := by
  subst hby
  have hadd : a.add 0 = a := by cases a; simp at ha; subst ha; rfl
  have hnews : ∀ j x, [u][j]? = some x → w.cell? (a.add j) = some x := by
    intro j x hx
    cases j with
    | zero => simp at hx; subst hx; rw [hadd]; exact hnew
    | succ j => simp at hx
  have hsmall : xs.length + 1 ≤ 9223372036854775807 := by simp only [maxLen] at h63; omega
  rcases hown with ⟨rfl, rfl⟩ | ⟨g, cap, cur, rfl, hb, hnc, hcm, hcs, htake⟩
  · have hr := run_append_nil (P := P) w t ty e i z ht hi hz a 1 1 [u] (by simp [hsize]) hnews (by omega) (by omega) (by simp at hbytes; omega)
    refine ⟨_, _, hr, .inr ⟨w.heap.size, _, _, rfl, heap_alloc_new w.drew _, grownCap_ge w 1 0 e, grownCap_le_maxLen w 1 0 e (by simpa using h63), ?_, ?_⟩, ⟨rfl, rfl, rfl, by simp, fun k hk _ => Below.heap_alloc w.drew _ k hk⟩, w.heap.size, rfl, .inr (Nat.le_refl _)⟩
    · have := grownCap_ge w 1 0 e
      simp only [Array.size_append, List.size_toArray, size_zeroCells, hzs, List.length_cons, List.length_nil]
      omega
    · simp
  · by_cases hroom : xs.length + 1 ≤ cap
    · have hr := run_append_room (P := P) w t ty e i ht hi g xs.length cap cur hb a 1 1 [u] (by simp [hsize]) hnews (by simpa using h1) hroom (by simp [hsize]; omega)
      simp only [hsize, Nat.mul_one, List.length_cons, List.length_nil, Nat.zero_add] at hr
      refine ⟨_, _, hr, .inr ⟨g, cap, _, by simp, setRow_heap w g cur _ e _ hb, by simpa using hroom, hcm, ?_, ?_⟩, ⟨rfl, rfl, rfl, by simp, fun k _ hk => setRow_other w g k _ (fun e => hk (by simp [Value.ownBlock, e]))⟩, g, rfl, .inl rfl⟩
      · simp only [List.size_toArray, List.length_append, List.length_take, List.length_drop, Array.length_toList, List.length_cons, List.length_nil]
        omega
      · rw [htake]; exact List.take_left
    · have holds : ∀ j x, xs[j]? = some x → w.cell? ((⟨g, 0, none⟩ : Addr).add j) = some x := by
        intro j x hx
        have hadd : (⟨g, 0, none⟩ : Addr).add j = ⟨g, j, none⟩ := by unfold Addr.add; split <;> simp_all
        rw [hadd, hb.cell]
        rw [← htake, List.getElem?_take] at hx
        split at hx
        · simpa using hx
        · cases hx
      have hr := run_append_grow (P := P) w t ty e i z ht hi hz ⟨g, 0, none⟩ xs.length cap xs (by simp [hsize]) holds a 1 1 [u] (by simp [hsize]) hnews (by omega) (by omega) (growslice_fits (by omega) hbytes)
      refine ⟨_, _, hr, .inr ⟨w.heap.size, _, _, by rw [List.length_append]; rfl, heap_alloc_new w.drew _, by simpa using grownCap_ge w (xs.length + 1) cap e, grownCap_le_maxLen w (xs.length + 1) cap e h63, ?_, ?_⟩, ⟨rfl, rfl, rfl, by simp, fun k hk _ => Below.heap_alloc w.drew _ k hk⟩, w.heap.size, rfl, .inr (Nat.le_refl _)⟩
      · have := grownCap_ge w (xs.length + 1) cap e
        simp only [Array.size_append, List.size_toArray, size_zeroCells, hzs, List.length_cons, List.length_nil]
        omega
      · simp only [Array.toList_append]; exact List.take_left

theorem wpList_append_one {P : Program} {w : World} {ops : Array Oper} {rest : List Oper} {o : Oper} {a : Act} {Q : Exit → Act → World → Prop} (hgd : o.guard = none) (s x : Operand) (t : TypeId)
    (ho : o.op = .call { callee := .builtin .append, args := #[s, x], argTypes := #[t, t] })
    (e : TypeId) (i : TypeInfo) (z : Value) (bytes : Nat) (ht : P.underlying t = some (.slice e)) (hi : P.info? e = some i) (hz : i.zero = some z)
    (hsize : i.size = 1) (hby : i.bytes = bytes) (hzs : z.cells.size = 1) (v : Value) (xs : List Value) (hs : a.eval s = v) (hown : Own w e v xs)
    (ad : Addr) (u : Value) (hx : a.eval x = .slice (some ad) 1 1) (hnew : w.cell? ad = some u) (ha : ad.spot = none) (h1 : u.oneCell' = true) (h63 : xs.length + 1 ≤ maxLen) (hbytes : (xs.length + 1) * bytes ≤ 140737488355328)
    (h : ∀ v' w', Own w' e v' (xs ++ [u]) → w.grownBy w' v.ownBlock → Hid (∃ g', v'.ownBlock = some g' ∧ (v.ownBlock = some g' ∨ w.heap.size ≤ g')) → wpList P ops Q rest (a.put o.dst v') w') : wpList P ops Q (o :: rest) a w := by
  refine wpList_plain hgd fun K hK => ?_
  obtain ⟨v', w', hr, h2, h3, h4⟩ := run_append_one (P := P) (ty := o.type) ht hi hz hsize hby hzs hown ad u hnew ha h1 h63 hbytes
  unfold Oper.wp execOp
  simp only [ho, resolve, invoke, builtin, Sem.run_bind, Sem.run_pure, Result.andThen_ok, List.map_toArray, List.map_cons, List.map_nil, hs, hx, hr]
  exact hK _ _ (h v' w' h2 h3 h4)

/-- w' is w grown; of w's blocks only those in ex may hold something else -/
structure Ext (ex : Nat → Prop) (w w' : World) : Prop where
  os : w'.os = w.os
  tape : w'.tape = w.tape
  output : w'.output = w.output
  size : w.heap.size ≤ w'.heap.size
  block : ∀ k, k < w.heap.size → ¬ ex k → w'.heap[k]? = w.heap[k]?
theorem Ext.trans {p q : Nat → Prop} {a b c : World} (h : Ext p a b) (k : Ext q b c) : Ext (fun i => p i ∨ q i) a c :=
  ⟨k.os.trans h.os, k.tape.trans h.tape, k.output.trans h.output, Nat.le_trans h.size k.size, fun i hi hn => (k.block i (Nat.lt_of_lt_of_le hi h.size) (fun e => hn (.inr e))).trans (h.block i hi (fun e => hn (.inl e)))⟩
theorem Ext.mono {p q : Nat → Prop} {a b : World} (h : Ext p a b) (hpq : ∀ k, k < a.heap.size → p k → q k) : Ext q a b := ⟨h.os, h.tape, h.output, h.size, fun k hk hn => h.block k hk (fun e => hn (hpq k hk e))⟩
theorem Ext.of_below {B : Nat} {a b : World} (h : Below B a b) : Ext (fun k => B ≤ k) a b := ⟨h.os, h.tape, h.output, h.size, fun k _ hn => h.block k (by omega)⟩
theorem Ext.below {ex : Nat → Prop} {B : Nat} {a w w' : World} (hb : Below B a w) (h : Ext ex w w') (hB : B ≤ w.heap.size) (hx : ∀ k, k < w.heap.size → ex k → B ≤ k) : Below B a w' :=
  hb.trans ⟨h.os, h.tape, h.output, h.size, fun k hk => h.block k (by omega) (fun e => by have := hx k (by omega) e; omega)⟩
theorem Ext.alloc (w : World) (o : Obj) : Ext (fun _ => False) w (w.alloc o) := ⟨rfl, rfl, rfl, by simp, fun k hk _ => Below.heap_alloc _ _ _ hk⟩
theorem Ext.grown {w w' : World} {r : Option Nat} (h : w.grownBy w' r) : Ext (fun k => r = some k) w w' := ⟨h.os, h.tape, h.output, h.size, fun k hk hn => h.block k hk (fun e => hn e.symm)⟩
theorem Ext.set (w : World) (a : Addr) (v : Value) : Ext (fun k => k = a.block) w (w.setCell a v) := ⟨rfl, rfl, rfl, by simp [World.setCell], fun k _ hn => Below.heap_setCell _ _ _ _ hn⟩
theorem Ext.drewN (w : World) (n : Nat) : Ext (fun _ => False) w (w.drewN n) := ⟨rfl, rfl, rfl, Nat.le_refl _, fun _ _ _ => rfl⟩
theorem Ext.put {α : Type} [Inhabited α] (en : α → Value) (w : World) (q b : Nat) (d : Array α) : Ext (fun k => k = b) w (putRow en (Sort.ahead w q) b 0 d) := by
  refine ⟨rfl, rfl, rfl, by simp [putRow, mapBlock, Sort.ahead], fun k _ hn => ?_⟩
  unfold putRow mapBlock
  simp only [Array.getElem?_modify, Ne.symm hn, ↓reduceIte]
  rfl
theorem Ext.heaps (w : World) (os : Array Obj) : Ext (fun _ => False) w (Sort.grow w os) := ⟨rfl, rfl, rfl, by simp, fun k hk _ => Sort.heap_grow_old w os hk⟩
theorem Blk.ext {ex : Nat → Prop} {w w' : World} {b : Nat} {c : Array Value} {t : TypeId} (h : Blk w b c t) (e : Ext ex w w') (hn : ¬ ex b) : Blk w' b c t := h.of (e.block b h.lt hn)
theorem Own.lt {w : World} {e : TypeId} {v : Value} {xs : List Value} (h : Own w e v xs) {g : Nat} (hg : v.ownBlock = some g) : g < w.heap.size ∧ ∃ c, Blk w g c e := by
  rcases h with ⟨rfl, _⟩ | ⟨g', cap, cur, rfl, hb, h⟩
  · cases hg
  · injection hg with hg
    subst hg
    exact ⟨hb.lt, cur, hb⟩
theorem Own.ext {ex : Nat → Prop} {w w' : World} {e : TypeId} {v : Value} {xs : List Value} (h : Own w e v xs) (k : Ext ex w w') (hn : ∀ g, v.ownBlock = some g → ¬ ex g) : Own w' e v xs :=
  h.kept fun g hg => k.block g (h.lt hg).1 (hn g hg)
end Go.Proofs.YbulkdtuwB
