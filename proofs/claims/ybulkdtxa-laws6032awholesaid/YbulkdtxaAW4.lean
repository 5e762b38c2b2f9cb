import Derived.Test.YbulkdtxaAP1
import Derived.Test.YbulkdtxaAW2
import Derived.Deep.DeepCutAuto
import Derived.Lib.Strings
namespace Go.Proofs.YbulkdtxaA
open Go.RowKit

def encS (x : List UInt8) : Value := .string (str x)
theorem inf9 : ∃ i, Yba.prog.info? 9 = some i ∧ i.zero = some (.string ⟨#[]⟩) ∧ i.size = 1 ∧ i.bytes = 16 := ⟨Yba.t9, by kernel_rfl, by kernel_rfl, by kernel_rfl, by kernel_rfl⟩
theorem new_cell (w : World) (v : Value) (t : TypeId) : (w.alloc (.cells #[v] t)).cell? ⟨w.heap.size, 0, none⟩ = some v := (Blk.new w #[v] t).cell 0
theorem ext_mid (l : List UInt8) (a b : Nat) : (str l).extract a b = str ((l.drop a).take (b - a)) := by
  apply ByteArray.ext
  simp [str]

/-- a row that the call itself made -/
def Mine (w : World) (e : TypeId) (v : Value) (xs : List Value) (wr : World) : Prop := Own wr e v xs ∧ (∀ g, v.ownBlock = some g → w.heap.size ≤ g) ∧ Ext (fun _ => False) w wr
theorem Mine.start (w : World) (e : TypeId) : Mine w e (.slice none 0 0) [] w := ⟨.inl ⟨rfl, rfl⟩, fun _ h => (nomatch h), ⟨rfl, rfl, rfl, Nat.le_refl _, fun _ _ _ => rfl⟩⟩
theorem Mine.more {w wr w2 : World} {e : TypeId} {v v2 u : Value} {xs : List Value} {ob : Obj} (h : Mine w e v xs wr) (hO : Own w2 e v2 (xs ++ [u])) (hg : (wr.alloc ob).grownBy w2 v.ownBlock)
    (hb : ∃ g', v2.ownBlock = some g' ∧ (v.ownBlock = some g' ∨ (wr.alloc ob).heap.size ≤ g')) : Mine w e v2 (xs ++ [u]) w2 := by
  refine ⟨hO, fun g hgg => ?_, ((h.2.2.trans (Ext.alloc wr ob)).trans (Ext.grown hg)).mono (fun k hk e => ?_)⟩
  · obtain ⟨g', hg', hh⟩ := hb
    rw [hg'] at hgg; injection hgg with hgg; subst hgg
    rcases hh with hh | hh
    · exact h.2.1 _ hh
    · have := h.2.2.size; simp at hh; omega
  · rcases e with (e | e) | e
    · exact e
    · exact e
    · have := h.2.1 k e; omega

/-- the loop's state -/
structure Sp (l : List UInt8) (w : World) (st i : Nat) (done : List (List UInt8)) (v : Value) (wr : World) : Prop where
  le : st ≤ i
  il : i ≤ l.length
  pcs : pcs l = done ++ pcs (l.drop st)
  none : ∀ j (hj : j < l.length), st ≤ j → j < i → l[j] ≠ 45
  len : done.length ≤ i
  row : Mine w 9 v (done.map encS) wr

theorem Sp.skip {l : List UInt8} {w wr : World} {st i : Nat} {done : List (List UInt8)} {v : Value} (h : Sp l w st i done v wr) (hi : i < l.length) (hc : l[i] ≠ 45) : Sp l w st (i + 1) done v wr :=
  ⟨by have := h.le; omega, by omega, h.pcs, fun j hj h1 h2 => by
    rcases Nat.lt_or_eq_of_le (Nat.le_of_lt_succ h2) with h' | h'
    · exact h.none j hj h1 h'
    · subst h'; exact hc, by have := h.len; omega, h.row⟩
theorem mid_none {l : List UInt8} {st i : Nat} (hi : i ≤ l.length) (hn : ∀ j (hj : j < l.length), st ≤ j → j < i → l[j] ≠ 45) : ∀ x ∈ (l.drop st).take (i - st), x ≠ 45 := by
  intro x hx
  obtain ⟨j, hj, rfl⟩ := List.getElem_of_mem hx
  simp only [List.length_take, List.length_drop] at hj
  simp only [List.getElem_take, List.getElem_drop]
  exact hn _ (by omega) (by omega) (by omega)
theorem Sp.cut {l : List UInt8} {w wr w2 : World} {st i : Nat} {done : List (List UInt8)} {v v2 : Value} {ob : Obj} (h : Sp l w st i done v wr) (hi : i < l.length) (hc : l[i] = 45)
    (hO : Own w2 9 v2 (done.map encS ++ [encS ((l.drop st).take (i - st))])) (hg : (wr.alloc ob).grownBy w2 v.ownBlock) (hb : ∃ g', v2.ownBlock = some g' ∧ (v.ownBlock = some g' ∨ (wr.alloc ob).heap.size ≤ g')) :
    Sp l w (i + 1) (i + 1) (done ++ [(l.drop st).take (i - st)]) v2 w2 := by
  refine ⟨Nat.le_refl _, by omega, ?_, fun j hj h1 h2 => absurd h2 (by omega), by have := h.len; simp; omega, ?_⟩
  · have hle := h.le
    have e : l.drop st = (l.drop st).take (i - st) ++ 45 :: l.drop (i + 1) := by
      conv => lhs; rw [← List.take_append_drop (i - st) (l.drop st)]
      rw [List.drop_drop, show st + (i - st) = i by omega, List.drop_eq_getElem_cons hi, hc]
    have hp := h.pcs
    rw [e, pcs_cut (mid_none (by omega) h.none)] at hp
    rw [hp]
    simp
  · have := h.row.more hO hg hb
    rw [show (done ++ [(l.drop st).take (i - st)]).map encS = done.map encS ++ [encS ((l.drop st).take (i - st))] by simp]
    exact this

theorem own_form {w : World} {e : TypeId} {v u : Value} {xs : List Value} (h : Own w e v (xs ++ [u])) : ∃ g c, v = .slice (some ⟨g, 0, none⟩) (xs.length + 1) c ∧ xs.length + 1 ≤ c ∧ w.cell? ⟨g, xs.length, none⟩ = some u := by
  rcases h with ⟨_, h⟩ | ⟨g, c, cur, rfl, hb, h1, h2, h3, h4⟩
  · simp at h
  · refine ⟨g, c, by simp, by simpa using h1, ?_⟩
    rw [hb.cell]
    have h5 : (cur.toList.take (xs ++ [u]).length)[xs.length]? = (xs ++ [u])[xs.length]? := by rw [h4]
    rw [List.getElem?_take, if_pos (by simp)] at h5
    simpa using h5
theorem own_less {w : World} {e : TypeId} {u : Value} {xs : List Value} {g n c : Nat} (h : Own w e (.slice (some ⟨g, 0, none⟩) n c) (xs ++ [u])) : Own w e (.slice (some ⟨g, 0, none⟩) xs.length c) xs := by
  rcases h with ⟨h, _⟩ | ⟨g', c', cur, hv, hb, h1, h2, h3, h4⟩
  · cases h
  · injection hv with e1 e2 e3
    injection e1 with e1
    injection e1 with e1
    subst e1 e3
    refine .inr ⟨g, c, cur, rfl, hb, by simp at h1; omega, h2, h3, ?_⟩
    have h5 : (cur.toList.take (xs ++ [u]).length).take xs.length = (xs ++ [u]).take xs.length := by rw [h4]
    rw [List.take_take] at h5
    simpa using h5
theorem Sp.last {l : List UInt8} {w wr : World} {st : Nat} {done : List (List UInt8)} {v : Value} (h : Sp l w st l.length done v wr) : Go.Proofs.YbulkdtxaA.pcs l = done ++ [l.drop st] := by
  rw [h.pcs, pcs_none (l := l.drop st)]
  intro hm
  obtain ⟨j, hj, e⟩ := List.getElem_of_mem hm
  simp only [List.length_drop] at hj
  rw [List.getElem_drop] at e
  exact h.none _ (by omega) (by omega) (by omega) e

set_option maxHeartbeats 2000000 in
theorem split_any (l : List UInt8) (w : World) (hs : l.length ≤ 2097152) :
    Calls Yba.prog 9 #[.string (str l)] w fun e w' => (∃ v, e = .returned v ∧ Mine w 9 v ((nx l).map encS) w') := by
  obtain ⟨i9, hi9, hz9, hs9, hb9⟩ := inf9
  have hsz := str_size l
  obtain ⟨s, hS⟩ : ∃ s, s = str l := ⟨_, rfl⟩
  rw [← hS] at hsz ⊢
  have HS := hide hS
  clear hS
  go_enter Yba.func9, Yba.ntmps9
  go_wp2
  go_loopg [3, 4, 5] l.length (fun f v a b wr => ∃ st i done, l.length - i ≤ f ∧ a = .int .i64 (st : Nat) ∧ b = .int .i64 (i : Nat) ∧ Hid (Sp l w st i done v wr))
  case atStart => exact ⟨0, 0, [], by omega, rfl, rfl, ⟨Nat.le_refl _, by omega, by simp, fun j _ _ h => absurd h (by omega), Nat.le_refl _, Mine.start w 9⟩⟩
  case round =>
    obtain ⟨st, i, done, hg, rfl, rfl, hP⟩ := hrel
    have hle := hP.out.le
    have hil := hP.out.il
    have hdl := hP.out.len
    by_cases hlt : i < l.length
    · have hi : s[i]'(by omega) = l[i] := by
        have := str_at l i (by rw [str_size]; exact hlt)
        simp only [HS.out, this]
      obtain ⟨c, hc⟩ : ∃ c, l[i] = c := ⟨_, rfl⟩
      rw [hc] at hi
      have HC := hide hc
      clear hc
      by_cases h45 : c = 45
      · subst h45
        go_wp2_with (at_builtin; refine wpList_append_one rfl _ _ 22 rfl 9 i9 _ 16 Yba.underlying22 hi9 hz9 hs9 hb9 rfl u3 _ rfl (hP.out.row.1.ext (Ext.alloc _ _) (fun _ _ => id)) ⟨wr.heap.size, 0, none⟩ (.string (s.extract st i)) rfl (new_cell _ _ _) rfl rfl (by rw [List.length_map]; unfold maxLen; omega) (by rw [List.length_map]; omega) ?_; intro v2 w2 hown2 hgrow2 hb2; have HOWN2 := hide hown2; have HGR2 := hide hgrow2; clear hown2 hgrow2)
        go_roundg (l.length - (i + 1))
        case measure => omega
        case rel => exact ⟨i + 1, i + 1, _, Nat.le_refl _, by go_num, by go_num, hP.out.cut hlt HC.out (by have := HOWN2.out; rw [HS.out, ext_mid] at this; exact this) HGR2.out hb2.out⟩
      · have hb : ((c.toNat : Int) == 45) = false := by
          rw [beq_eq_false_iff_ne]
          intro h
          apply h45
          have : c.toNat = 45 := by omega
          exact UInt8.toNat_inj.1 this
        go_wp2_with fail
        go_roundg (l.length - (i + 1))
        case measure => omega
        case rel => exact ⟨st, i + 1, done, Nat.le_refl _, rfl, by go_num, hP.out.skip hlt (by rw [HC.out]; exact h45)⟩
    · obtain rfl : i = l.length := by omega
      have hpcs := hP.out.last
      have hnx : nx l = drp (done ++ [l.drop st]) := by rw [nx_pcs _ l (Nat.le_refl _), hpcs]
      have hex : s.extract st l.length = str (l.drop st) := by
        rw [HS.out, ext_mid]; congr 1; exact List.take_of_length_le (by simp)
      obtain ⟨lp, hlp⟩ : ∃ lp, l.drop st = lp := ⟨_, rfl⟩
      rw [hlp] at hnx hex
      have HNX := hide hnx
      clear hnx hpcs hlp
      by_cases hd : done.length = 0
      · have HD := hide hd
        go_wp2_with (at_builtin; refine wpList_append_one rfl _ _ 22 rfl 9 i9 _ 16 Yba.underlying22 hi9 hz9 hs9 hb9 rfl u3 _ rfl (hP.out.row.1.ext (Ext.alloc _ _) (fun _ _ => id)) ⟨wr.heap.size, 0, none⟩ (.string (str lp)) rfl (new_cell _ _ _) rfl rfl (by rw [List.length_map]; unfold maxLen; omega) (by rw [List.length_map]; omega) ?_; intro v2 w2 hown2 hgrow2 hb2; have hM := hP.out.row.more hown2 hgrow2 hb2.out; obtain ⟨g2, c2, rfl, hc2, hcell⟩ := own_form hown2; rw [List.length_map] at hcell hc2; rw [List.length_map, hd]; have HM := hide hM; clear hown2 hgrow2 hM hb2)
        go_ret
        have hM := HM.out
        have hd0 : done = [] := List.eq_nil_of_length_eq_zero HD.out
        rw [hd0] at hM
        refine ⟨_, rfl, ?_⟩
        rw [HNX.out, hd0]
        exact hM
      · obtain ⟨m, hm⟩ : ∃ m, done.length = m + 1 := ⟨done.length - 1, by omega⟩
        by_cases hlp0 : lp = []
        · subst hlp0
          have hemp : (str []).toList.isEmpty = true := by rw [Lib.toList_data]; rfl
          go_wp2_with (at_builtin; refine wpList_append_one rfl _ _ 22 rfl 9 i9 _ 16 Yba.underlying22 hi9 hz9 hs9 hb9 rfl u3 _ rfl (hP.out.row.1.ext (Ext.alloc _ _) (fun _ _ => id)) ⟨wr.heap.size, 0, none⟩ (.string (str [])) rfl (new_cell _ _ _) rfl rfl (by rw [List.length_map]; unfold maxLen; omega) (by rw [List.length_map]; omega) ?_; intro v2 w2 hown2 hgrow2 hb2; have hM := hP.out.row.more hown2 hgrow2 hb2.out; obtain ⟨g2, c2, rfl, hc2, hcell⟩ := own_form hown2; rw [List.length_map] at hcell hc2; rw [List.length_map, hm]; rw [hm] at hcell hc2; have HM := hide hM; clear hown2 hgrow2 hM hb2)
          go_ret
          have hM := HM.out
          refine ⟨_, rfl, ?_⟩
          have e : nx l = done := by
            rw [HNX.out]
            unfold drp
            rw [if_pos ⟨by simp; omega, by simp⟩]
            simp
          rw [e]
          have hO := own_less hM.1
          rw [List.length_map, hm] at hO
          exact ⟨hO, fun g hg => hM.2.1 g hg, hM.2.2⟩
        · have hemp : (str lp).toList.isEmpty = false := by
            rw [Lib.toList_data]
            cases lp with
            | nil => exact absurd rfl hlp0
            | cons a b => rfl
          have HLP := hide hlp0
          clear hlp0
          go_wp2_with (at_builtin; refine wpList_append_one rfl _ _ 22 rfl 9 i9 _ 16 Yba.underlying22 hi9 hz9 hs9 hb9 rfl u3 _ rfl (hP.out.row.1.ext (Ext.alloc _ _) (fun _ _ => id)) ⟨wr.heap.size, 0, none⟩ (.string (str lp)) rfl (new_cell _ _ _) rfl rfl (by rw [List.length_map]; unfold maxLen; omega) (by rw [List.length_map]; omega) ?_; intro v2 w2 hown2 hgrow2 hb2; have hM := hP.out.row.more hown2 hgrow2 hb2.out; obtain ⟨g2, c2, rfl, hc2, hcell⟩ := own_form hown2; rw [List.length_map] at hcell hc2; rw [List.length_map, hm]; rw [hm] at hcell hc2; have HM := hide hM; clear hown2 hgrow2 hM hb2)
          go_ret
          have hM := HM.out
          rw [List.length_map, hm] at hM
          refine ⟨_, rfl, ?_⟩
          have e : nx l = done ++ [lp] := by
            rw [HNX.out]
            unfold drp
            rw [if_neg]
            intro h
            apply HLP.out
            simpa using h.2
          rw [e, List.map_append]
          exact hM
end Go.Proofs.YbulkdtxaA
