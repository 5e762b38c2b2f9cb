import Derived.Test.YbulkdtuwBW1
import Derived.LoopTactic
namespace Go.Proofs.YbulkdtuwB
open Go.RowKit Go.Sort Go.Lib

/-- a run: its block, its capacity, its keys -/
structure Rn where
  g : Nat
  cap : Nat
  run : List (List UInt8)
  deriving Inhabited
def Rn.hd (x : Rn) : Value := .slice (some ⟨x.g, 0, none⟩) x.run.length x.cap
def enc : Option Rn → Value
  | none => .slice none 0 0
  | some x => x.hd
def RunOk (w : World) (x : Rn) : Prop :=
  x.run ≠ [] ∧ x.run.length ≤ 1048576 ∧ x.run.length ≤ x.cap ∧ x.cap ≤ maxLen ∧ ∃ cur, Blk w x.g cur 9 ∧ cur.toList.take x.run.length = x.run.map encStr
theorem RunOk.of {w w' : World} {x : Rn} (h : RunOk w x) (e : w'.heap[x.g]? = w.heap[x.g]?) : RunOk w' x := by
  obtain ⟨h1, h2, h3, h4, cur, h5, h6⟩ := h
  exact ⟨h1, h2, h3, h4, cur, h5.of e, h6⟩

theorem holds_of {α : Type} [Inhabited α] {en : α → Value} {w : World} {b : Nat} {cur : Array Value} {t : TypeId} {L : List α} (h : Blk w b cur t) (ht : cur.toList.take L.length = L.map en) : Holds en w b 0 L.toArray := by
  intro j hj
  simp only [List.size_toArray] at hj
  rw [Nat.zero_add, h.cell, h.frozen]
  refine ⟨?_, rfl⟩
  have h2 : (cur.toList.take L.length)[j]? = (L.map en)[j]? := by rw [ht]
  rw [List.getElem?_take, if_pos hj] at h2
  simp only [Array.getElem?_toList, List.getElem?_map] at h2
  rw [h2, List.getElem?_eq_getElem hj]
  simp [hj]
theorem take_cell {cur : Array Value} {L : List Value} (ht : cur.toList.take L.length = L) (j : Nat) (hj : j < L.length) : cur[j]? = some L[j] := by
  have h2 : (cur.toList.take L.length)[j]? = L[j]? := by rw [ht]
  rw [List.getElem?_take, if_pos hj] at h2
  simp only [Array.getElem?_toList] at h2
  rw [h2, List.getElem?_eq_getElem hj]
theorem take_put {α : Type} [Inhabited α] {en : α → Value} (c : Array Value) (X Y : List α) (h : (X ++ Y).length ≤ c.size) : (putCells en 0 (X ++ Y).toArray c).toList.take X.length = X.map en := by
  apply List.ext_getElem?
  intro j
  rw [List.getElem?_take]
  by_cases hj : j < X.length
  · rw [if_pos hj]
    simp only [List.length_append] at h
    simp only [Array.getElem?_toList, putCells, Array.getElem?_mapIdx, List.getElem?_map]
    rw [Array.getElem?_eq_getElem (by omega)]
    simp only [Option.map_some, List.size_toArray, List.length_append, Nat.zero_le, true_and, Nat.zero_add, Nat.sub_zero]
    rw [if_pos (by omega), List.getElem?_eq_getElem hj]
    simp [List.getElem!_eq_getElem?_getD, List.getElem?_append_left hj, List.getElem?_eq_getElem hj]
  · rw [if_neg hj, List.getElem?_eq_none (by simp; omega)]

/-- what remove leaves: the runs R' at the box, everything else as it was -/
def Removed (w w' : World) (bx o c : Nat) (blocks : List Nat) (runs : List (List (List UInt8))) : Prop :=
  ∃ R' : List Rn, R'.map Rn.run = runs ∧ Blk w' bx #[.slice (some ⟨o, 0, none⟩) R'.length c] 32 ∧ (∃ cur, Blk w' o cur 26 ∧ cur.toList.take R'.length = R'.map Rn.hd) ∧ (∀ y ∈ R', RunOk w' y) ∧
    Ext (fun b => b = bx ∨ b = o ∨ b ∈ blocks) w w'

theorem inf26 : ∃ i, Yba.prog.info? 26 = some i ∧ i.zero = some (.slice none 0 0) ∧ i.size = 1 ∧ i.bytes = 24 := ⟨Yba.t26, by kernel_rfl, by kernel_rfl, by kernel_rfl, by kernel_rfl⟩
theorem inf9 : ∃ i, Yba.prog.info? 9 = some i ∧ i.zero = some (.string ⟨#[]⟩) ∧ i.size = 1 ∧ i.bytes = 16 := ⟨Yba.t9, by kernel_rfl, by kernel_rfl, by kernel_rfl, by kernel_rfl⟩
theorem oneEnc : OneCell enc := by intro x; cases x <;> rfl
theorem del_any (o c I : Nat) (L : List (Option Rn)) (w : World) (hH : Holds enc w o 0 L.toArray) (hcap : L.length ≤ c) (hm : c ≤ maxLen) (hj : I + 1 ≤ L.length) :
    Calls Yba.prog 20 #[.slice (some ⟨o, 0, none⟩) L.length c, .int .i64 I, .int .i64 ((I : Int) + 1)] w fun e w' => e = .returned (.slice (some ⟨o, 0, none⟩) (L.length - 1) c) ∧ ∃ q, w' = putRow enc (Sort.ahead w q) o 0 (L.take I ++ L.drop (I + 1) ++ List.replicate 1 none).toArray := by
  obtain ⟨i0, hi, hz0, hz1, hz2⟩ := inf26
  have := AnyE.slices_Delete Yba.ldel20 enc oneEnc none (fun w => Yba.zeroValue26 w) i0 hi hz1 o 0 c I (I + 1) L.toArray w hH (by simpa using hcap) (by unfold maxLen at hm; omega) (by omega) (by simpa using hj)
  have e : Yba.ldel20_ren.f 45 = 20 := rfl
  rw [e] at this
  simpa using this

theorem encs (s : List UInt8) : encStr s = .string ⟨s.toArray⟩ := rfl

/-- everything but these blocks is as it was -/
def Kept (w w' : World) (P : Nat → Prop) : Prop := ∀ b, P b → w'.heap[b]? = w.heap[b]?
theorem kept_put {α : Type} [Inhabited α] {en : α → Value} {w : World} {q b : Nat} {d : Array α} : Kept w (putRow en (Sort.ahead w q) b 0 d) (· ≠ b) := by
  intro k hk
  unfold putRow mapBlock
  simp only [Array.getElem?_modify, Ne.symm hk, ↓reduceIte]
  rfl
theorem kept_set {w : World} {a : Addr} {v : Value} : Kept w (w.setCell a v) (· ≠ a.block) := by
  intro k hk
  exact Below.heap_setCell _ _ _ _ hk

theorem getElem_mid {α : Type} (A : List α) (x : α) (B : List α) (h : A.length < (A ++ x :: B).length) : (A ++ x :: B)[A.length] = x := by simp

set_option maxHeartbeats 4000000 in
theorem remove_one (bx o c : Nat) (A B : List Rn) (x : Rn) (key : List UInt8) (w : World)
    (hbx : Blk w bx #[.slice (some ⟨o, 0, none⟩) (A.length + 1 + B.length) c] 32) (cur : Array Value) (ho : Blk w o cur 26) (hcur : cur.toList.take (A ++ x :: B).length = (A ++ x :: B).map Rn.hd) (hcs : cur.size = c)
    (hc1 : A.length + 1 + B.length ≤ c) (hc2 : c ≤ maxLen) (hn : A.length + 1 + B.length ≤ 1048576) (hok : ∀ y ∈ A ++ x :: B, RunOk w y) (hx : x.run.length = 1)
    (H : Calls Yba.prog 19 #[.slice (some ⟨o, 0, none⟩) (A.length + 1 + B.length) c, .string ⟨key.toArray⟩] w fun e w' => e = .returned (.tuple #[.int .i64 A.length, .int .i64 0]) ∧ ∃ q, w' = w.drewN q) :
    Calls Yba.prog 10 #[.pointer (some ⟨bx, 0, none⟩), .string ⟨key.toArray⟩] w fun e w' => e = .returned (.tuple #[]) ∧ Removed w w' bx o c ((A ++ x :: B).map Rn.g) ((A ++ B).map Rn.run) := by
  have hlen : (A ++ x :: B).length = A.length + 1 + B.length := by simp; omega
  have hD := fun w' hH => del_any o c A.length ((A ++ x :: B).map some) w' hH (by simp; omega) hc2 (by simp)
  have hL : (A ++ x :: B).map some = A.map some ++ some x :: B.map some := by simp
  simp only [List.length_map, hlen] at hD
  have HD := hide hD
  clear hD
  have cell := hbx.cell 0
  have fz := hbx.frozen 0
  have cI : w.cell? ⟨o, A.length, none⟩ = some (.slice (some ⟨x.g, 0, none⟩) 1 x.cap) := by
    rw [ho.cell]
    have := take_cell (L := (A ++ x :: B).map Rn.hd) (by simpa using hcur) A.length (by simp)
    rw [this]
    simp [Rn.hd, hx]
  have hlt : A.length < A.length + 1 + B.length := by omega
  have HO := hide ho
  have HB := hide hbx
  have HC := hide hcur
  have HOK := hide hok
  clear ho hbx hcur hok
  generalize hN : A.length + 1 + B.length = N at *
  generalize hI : A.length = I at *
  go_enter Yba.func10, Yba.ntmps10
  have hmap : (A ++ x :: B).map Rn.hd = ((A ++ x :: B).map some).map enc := by simp [enc, Function.comp_def]
  have hbo : bx ≠ o := HB.out.ne HO.out (by decide)
  have Hbo := hide hbo
  clear hbo
  go_wp2_with (first | (go_at_call 19; refine H.mono ?_; rintro e w' ⟨rfl, q, rfl⟩) | (go_at_call 20; refine (HD.out (w.drewN q) (holds_of (HO.out.drewN q) (by rw [List.length_map, ← hmap]; exact HC.out))).mono ?_; rintro e w2 ⟨rfl, q2, hw2⟩; have hb2 := ((HB.out.drewN q).ahead q2).putOther (enc := enc) (g := o) (List.take I (List.map some (A ++ x :: B)) ++ List.drop (I + 1) (List.map some (A ++ x :: B)) ++ List.replicate 1 none).toArray Hbo.out; rw [← hw2] at hb2; have c2 := hb2.cell 0; have f2 := hb2.frozen 0; have HB2 := hide hb2; have HW2 := hide hw2; clear hb2 hw2))
  refine bodyPost_ret (results_none rfl _ _ _) rfl ?_
  refine ⟨rfl, A ++ B, rfl, ?_, ⟨putCells enc 0 (((A ++ B).map some) ++ [none]).toArray cur, ?_, ?_⟩, ?_, ?_⟩
  · have := HB2.out.same 0 (.slice (some ⟨o, 0, none⟩) (N - 1) c)
    rw [show (A ++ B).length = N - 1 by simp; omega]
    exact this
  · refine Blk.other ?_ _ _ (Ne.symm Hbo.out)
    rw [HW2.out]
    have := ((HO.out.drewN q).ahead q2).put (enc := enc) (((A ++ B).map some) ++ [none]).toArray
    rw [show (List.take I (List.map some (A ++ x :: B)) ++ List.drop (I + 1) (List.map some (A ++ x :: B)) ++ List.replicate 1 none) = (((A ++ B).map some) ++ [none]) from ?_]
    · exact this
    · subst hI
      simp [List.drop_append]
  · have := take_put (en := enc) cur ((A ++ B).map some) [none] (by simp; omega)
    rw [List.length_map] at this
    rw [this]
    simp [enc, Function.comp_def]
  · intro y hy
    have hy' : y ∈ A ++ x :: B := by simp at hy ⊢; rcases hy with h | h <;> simp [h]
    have ok := HOK.out y hy'
    obtain ⟨_, _, _, _, cu, hcu, _⟩ := ok
    refine (HOK.out y hy').of ?_
    rw [kept_set y.g (hcu.ne HB.out (by decide)), HW2.out, kept_put y.g (hcu.ne HO.out (by decide))]
    rfl
  · rw [HW2.out]
    refine (((Ext.drewN w q).trans (Ext.put enc _ q2 o _)).trans (Ext.set _ _ _)).mono ?_
    intro k _ hk
    rcases hk with (hk | hk) | hk
    · exact hk.elim
    · exact .inr (.inl hk)
    · exact .inl hk

theorem nodup_mid {A B : List Rn} {x : Rn} (h : ((A ++ x :: B).map Rn.g).Nodup) {y : Rn} (hy : y ∈ A ++ B) : y.g ≠ x.g := by
  rw [List.map_append, List.map_cons, List.nodup_append] at h
  obtain ⟨_, h2, h3⟩ := h
  rw [List.nodup_cons] at h2
  rcases List.mem_append.1 hy with h | h
  · exact h3 y.g (List.mem_map_of_mem h) x.g (by simp)
  · intro e; exact h2.1 (e ▸ List.mem_map_of_mem h)

set_option maxHeartbeats 4000000 in
theorem remove_more (bx o c : Nat) (A B : List Rn) (x : Rn) (r1 r2 : List (List UInt8)) (key : List UInt8) (w : World)
    (hbx : Blk w bx #[.slice (some ⟨o, 0, none⟩) (A.length + 1 + B.length) c] 32) (cur : Array Value) (ho : Blk w o cur 26) (hcur : cur.toList.take (A ++ x :: B).length = (A ++ x :: B).map Rn.hd)
    (_hn : A.length + 1 + B.length ≤ 1048576) (hok : ∀ y ∈ A ++ x :: B, RunOk w y) (hx : x.run = r1 ++ key :: r2) (hx1 : r1 ++ r2 ≠ []) (hnd : ((A ++ x :: B).map Rn.g).Nodup)

    (H : Calls Yba.prog 19 #[.slice (some ⟨o, 0, none⟩) (A.length + 1 + B.length) c, .string ⟨key.toArray⟩] w fun e w' => e = .returned (.tuple #[.int .i64 A.length, .int .i64 r1.length]) ∧ ∃ q, w' = w.drewN q) :
    Calls Yba.prog 10 #[.pointer (some ⟨bx, 0, none⟩), .string ⟨key.toArray⟩] w fun e w' => e = .returned (.tuple #[]) ∧ Removed w w' bx o c ((A ++ x :: B).map Rn.g) (A.map Rn.run ++ (r1 ++ r2) :: B.map Rn.run) := by
  have hlen : (A ++ x :: B).length = A.length + 1 + B.length := by simp; omega
  obtain ⟨_, h2, h3, h4, xc, hxb, hxt⟩ := hok x (by simp)
  have hD := fun w' hH => Yba.slices_Delete_string x.g 0 x.cap r1.length (r1.length + 1) x.run w' hH h3 (by unfold maxLen at h4; omega) (by omega) (by rw [hx]; simp)
  have hxl : x.run.length = r1.length + r2.length + 1 := by rw [hx]; simp; omega
  have hpos : 0 < r1.length + r2.length := by
    rw [← List.length_append]; exact List.length_pos_iff.2 hx1
  have hdl : (x.run.take r1.length ++ x.run.drop (r1.length + 1) ++ List.replicate (r1.length + 1 - r1.length) ([] : List UInt8)) = (r1 ++ r2) ++ [[]] := by
    rw [hx]; simp
  rw [hdl] at hD
  have HXT := hide hxt
  have hxr : x.run.length = r1.length + 1 + r2.length := by omega
  rw [hxl] at hD h2 h3
  simp only [Nat.add_sub_cancel_left, Nat.add_sub_cancel, Int.natCast_add, Int.natCast_one] at hD
  have HD := hide hD
  clear hD hdl
  have cell := hbx.cell 0
  have cI : w.cell? ⟨o, A.length, none⟩ = some (.slice (some ⟨x.g, 0, none⟩) (r1.length + r2.length + 1) x.cap) := by
    rw [ho.cell]
    have := take_cell (L := (A ++ x :: B).map Rn.hd) (by simpa using hcur) A.length (by simp)
    rw [this]
    simp [Rn.hd, hxl]
  have hlt : A.length < A.length + 1 + B.length := by omega
  have n1 := hide (hxb.ne ho (by decide))
  have n2 := hide (hxb.ne hbx (by decide))
  have n3 := hide (hbx.ne ho (by decide))
  have HO := hide ho
  have HB := hide hbx
  have HC := hide hcur
  have HOK := hide hok
  have HX := hide hx
  have HXB := hide hxb
  have Hx1 := hide hx1
  clear ho hbx hcur hok hx hxb hxt hxl hx1
  generalize hN : A.length + 1 + B.length = N at *
  generalize hI : A.length = I at *
  go_enter Yba.func10, Yba.ntmps10
  go_wp2_with (first | (go_at_call 19; refine H.mono ?_; rintro e w' ⟨rfl, q, rfl⟩) | (go_at_call 21; refine (HD.out (w.drewN q) (holds_of (HXB.out.drewN q) HXT.out)).mono ?_; rintro e w2 ⟨rfl, q2, hw2⟩; have hb2 := ((HO.out.drewN q).ahead q2).putOther (enc := encStr) (g := x.g) ((r1 ++ r2) ++ [[]]).toArray (Ne.symm n1.out); rw [← hw2] at hb2; have c2 : w2.cell? ⟨o, I, none⟩ = some (.slice (some ⟨x.g, 0, none⟩) (r1.length + r2.length + 1) x.cap) := (hb2.cell I).trans ((HO.out.cell I).symm.trans cI); have f2 := hb2.frozen I; have HB2 := hide hb2; have HW2 := hide hw2; clear hb2 hw2))
  go_end0
  refine ⟨rfl, A ++ { x with run := r1 ++ r2 } :: B, by simp, ?_, ⟨cur.setIfInBounds I (.slice (some ⟨x.g, 0, none⟩) (r1.length + r2.length) x.cap), ?_, ?_⟩, ?_, ?_⟩
  · refine Blk.other ?_ _ _ n3.out
    rw [HW2.out, show (A ++ ({ x with run := r1 ++ r2 } : Rn) :: B).length = N by simp; omega]
    exact ((HB.out.drewN q).ahead q2).putOther _ (Ne.symm n2.out)
  · exact HB2.out.same I _
  · have hc := HC.out
    rw [hlen] at hc
    rw [show (A ++ ({ x with run := r1 ++ r2 } : Rn) :: B).length = N by simp; omega, Array.toList_setIfInBounds, List.take_set, hc, ← hI]
    simp [Rn.hd]
  · intro y hy
    have h5 : y = { x with run := r1 ++ r2 } ∨ y ∈ A ++ B := by simp at hy ⊢; rcases hy with h | h | h <;> simp [h]
    rcases h5 with rfl | hy
    · refine ⟨Hx1.out, by simp; omega, by simp; omega, h4, putCells encStr 0 ((r1 ++ r2) ++ [[]]).toArray xc, ?_, ?_⟩
      · refine Blk.other ?_ _ _ n1.out
        rw [HW2.out]
        exact ((HXB.out.drewN q).ahead q2).put _
      · have := HXT.out
        refine take_put (en := encStr) xc (r1 ++ r2) [[]] ?_
        have h6 := congrArg List.length this
        simp only [List.length_take, Array.length_toList, List.length_map, List.length_append, List.length_cons, List.length_nil] at h6 ⊢
        omega
    · have hy' : y ∈ A ++ x :: B := by simp at hy ⊢; rcases hy with h | h <;> simp [h]
      obtain ⟨_, _, _, _, cu, hcu, _⟩ := HOK.out y hy'
      refine (HOK.out y hy').of ?_
      rw [kept_set y.g (hcu.ne HO.out (by decide)), HW2.out, kept_put y.g (nodup_mid hnd hy)]
      rfl
  · rw [HW2.out]
    refine (((Ext.drewN w q).trans (Ext.put encStr _ q2 x.g _)).trans (Ext.set _ _ _)).mono ?_
    intro k _ hk
    rcases hk with (hk | hk) | hk
    · exact hk.elim
    · exact .inr (.inr (by rw [hk]; simp))
    · exact .inr (.inl hk)
end Go.Proofs.YbulkdtuwB
