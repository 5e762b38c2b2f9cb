import Derived.Test.YbulkdtvyDoorRows
import Derived.Test.YbulkdtvyDoorMem
import Derived.Deep.RegionLawGrows
import Derived.Lib.SmallJoins
namespace Go.Proofs.YbulkdtvyDoor.M
open Go.RowKit

set_option maxHeartbeats 1000000 in
theorem counted_no (R o : Nat) (rp : Option Addr) (line s : Int) (w : World) (hs : s < 3) (h0 : w.cell? ⟨R, o, none⟩ = some (.int .i64 s)) :
    Calls Ybad.prog 8 #[.pointer rp, .pointer (some ⟨R, o, none⟩), .int .i64 line] w fun e w' => e = .returned (.bool false) ∧ w' = w := by
  go_enter Ybad.func8, Ybad.ntmps8
  go_wp2
  go_ret
  exact ⟨rfl, rfl⟩

set_option maxHeartbeats 1000000 in
theorem counted_yes (R o G n cap l : Nat) (line s m z : Int) (w : World) (hs : 3 ≤ s) (hl : l < n) (_hn : n ≤ 1048576)
    (hz : -9223372036854775808 ≤ s ∧ s ≤ 9223372036854775807)
    (h0 : w.cell? ⟨R, o, none⟩ = some (.int .i64 s)) (h1 : w.cell? ⟨R, o + 1, none⟩ = some (.int .i64 l)) (h2 : w.cell? ⟨R, 0, none⟩ = some (.slice (some ⟨G, 0, none⟩) n cap))
    (h3 : w.cell? ⟨G, l * 6 + 4, none⟩ = some (.int .i64 m)) (h4 : w.cell? ⟨G, l * 6 + 5, none⟩ = some (.int .i64 z)) (hf : ∀ i, w.frozen? ⟨G, i, none⟩ = false) :
    Calls Ybad.prog 8 #[.pointer (some ⟨R, 0, none⟩), .pointer (some ⟨R, o, none⟩), .int .i64 line] w fun e w' => e = .returned (.bool true) ∧ ∃ q, w' = (((w.setCell ⟨G, l * 6 + 4, none⟩ (.int .i64 (wrap64 (m + 1)))).setCell ⟨G, l * 6 + 5, none⟩ (.int .i64 line))).drewN q := by
  have hli : (l : Int) < (n : Int) := by omega
  have hl0 : (0 : Int) ≤ (l : Int) := by omega
  go_enter Ybad.func8, Ybad.ntmps8
  go_wp2
  go_quiet (fail)
  go_wp2
  go_ret
  exact ⟨rfl, nq, rfl⟩

theorem add_block (b : Addr) (j : Nat) : (b.add j).block = b.block := by
  unfold Addr.add; split <;> rfl
theorem ownsRow_base {w : World} {base base' : Nat} {e : TypeId} {size : Nat} {v : Value} {n : Nat} {xs : List Value} (h : w.ownsRow base e size v n xs) (hb : base' ≤ base) : w.ownsRow base' e size v n xs := by
  obtain ⟨h1, h2⟩ := h
  refine ⟨h1, ?_⟩
  rcases h2 with h2 | ⟨g, cap, cur, hv, hg, r⟩
  · exact Or.inl h2
  · exact Or.inr ⟨g, cap, cur, hv, by omega, r⟩
theorem inf31 : ∃ i, Ybad.prog.info? 31 = some i ∧ i.zero = some (.agg #[.int .i64 0, .int .i64 0, .string ByteArray.empty, .string ByteArray.empty, .int .i64 0, .int .i64 0]) ∧ i.size = 6 ∧ i.bytes = 64 :=
  ⟨Ybad.t31, by kernel_rfl, by kernel_rfl, by kernel_rfl, by kernel_rfl⟩
/-- what show leaves -/
def ShowPost (w w' : World) (R o n : Nat) (C : Array Value) (s : Int) (xs : List Value) : Prop :=
  ∃ v', Blk w' R (((C.setIfInBounds o (.int .i64 (s + 1))).setIfInBounds (o + 1) (.int .i64 n)).setIfInBounds 0 v') 44 ∧ w'.ownsRow w.heap.size 31 6 v' (n + 1) xs ∧ w.grownBy w' (some R)
theorem show_close {W w w' : World} {R o n g c' : Nat} {C : Array Value} {s : Int} {xs : List Value} {v' : Value} (hR : R < w.heap.size) (hsz : W.heap.size = w.heap.size + 1)
    (hB : Blk W R ((C.setIfInBounds o (.int .i64 (s + 1))).setIfInBounds (o + 1) (.int .i64 n)) 44) (hG : ∀ k, k < w.heap.size → k ≠ R → W.heap[k]? = w.heap[k]?)
    (hT : W.os = w.os ∧ W.tape = w.tape ∧ W.output = w.output) (ob : Obj) (hown : w'.ownsRow (W.alloc ob).drew.heap.size 31 6 v' (n + 1) xs) (hgrow : (W.alloc ob).drew.grownBy w' none)
    (hv : v' = .slice (some ⟨g, 0, none⟩) (n + 1) c') : ShowPost w (w'.setCell ⟨R, 0, none⟩ (.slice (some ⟨g, 0, none⟩) (n + 1) c')) R o n C s xs := by
  have hsz2 : (W.alloc ob).drew.heap.size = w.heap.size + 2 := by simp [hsz]
  refine ⟨v', ?_, ?_, ?_⟩
  · rw [hv]
    refine Blk.same ?_ 0 _
    exact Blk.grown hgrow ((hB.alloc ob).drew) (by simp)
  · exact ownsRow_base (ownsRow_setCell_below hown (by rw [hsz2]; show R < _; omega) _) (by rw [hsz2]; omega)
  · refine ⟨hgrow.os.trans hT.1, hgrow.tape.trans hT.2.1, hgrow.output.trans hT.2.2, ?_, ?_⟩
    · have := hgrow.size
      rw [hsz2] at this
      simp; omega
    · intro k hk hkR
      have hkR' : k ≠ R := fun e => hkR (by rw [e])
      rw [Below.heap_setCell _ _ _ _ hkR', hgrow.block k (by rw [hsz2]; omega) (by simp)]
      show (W.alloc ob).heap[k]? = _
      rw [Below.heap_alloc _ _ _ (by omega)]
      exact hG k hk hkR'
abbrev fnd (ln sv : Int) (pa tx : ByteArray) (mo la : Int) : List Value := [.int .i64 ln, .int .i64 sv, .string pa, .string tx, .int .i64 mo, .int .i64 la]

set_option maxHeartbeats 1000000 in
theorem show_any (R o n cap : Nat) (ao : Option Addr) (C : Array Value) (olds : List Value) (ln sv mo la s l : Int) (pa tx : ByteArray) (w : World) (hn : n ≤ 1048576) (hcap : cap < n + 1)
    (ho : 0 < o) (hs : s < 3) (hs' : -9223372036854775808 ≤ s) (hBR : Blk w R C 44)
    (g0 : C[o]? = some (.int .i64 s)) (g1 : C[o + 1]? = some (.int .i64 l)) (g2 : C[0]? = some (.slice ao n cap))
    (hnone : ao = none → n = 0 ∧ cap = 0) (hlo : olds.length = n * 6) (holds : ∀ b, ao = some b → ∀ j u, olds[j]? = some u → w.cell? (b.add j) = some u) (hb : ∀ b, ao = some b → b.block ≠ R) :
    Calls Ybad.prog 9 #[.pointer (some ⟨R, 0, none⟩), .pointer (some ⟨R, o, none⟩), .agg #[.int .i64 ln, .int .i64 sv, .string pa, .string tx, .int .i64 mo, .int .i64 la]] w fun e w' => e = .returned (.tuple #[]) ∧ ShowPost w w' R o n C s (olds ++ fnd ln sv pa tx mo la) := by
  obtain ⟨i0, hi, hz0, hz1, hz2⟩ := inf31
  have hR := hBR.lt
  have h0 := (hBR.cell o).trans g0
  have h1 := (hBR.cell (o + 1)).trans g1
  have h2 := (hBR.cell 0).trans g2
  have hf := hBR.frozen
  have G0 := hide g0
  have G1 := hide g1
  have G2 := hide g2
  have HBR := hide hBR
  clear g0 g1 g2 hBR
  go_enter Ybad.func9, Ybad.ntmps9
  go_wp2
  have hBW : Blk ((w.setCell ⟨R, o, none⟩ (.int .i64 (s + 1))).setCell ⟨R, o + 1, none⟩ (.int .i64 n)) R ((C.setIfInBounds o (.int .i64 (s + 1))).setIfInBounds (o + 1) (.int .i64 n)) 44 := (HBR.out.same o _).same (o + 1) _
  generalize hW : (((w.setCell ⟨R, o, none⟩ (.int .i64 (s + 1))).setCell ⟨R, o + 1, none⟩ (.int .i64 n)).alloc (.cells #[.int .i64 ln, .int .i64 sv, .string pa, .string tx, .int .i64 mo, .int .i64 la] 31)) = W
  have HSZ : Hid (W.heap.size = w.heap.size + 1) := by unfold Hid; rw [← hW]; simp
  have HBW : Hid (Blk W R ((C.setIfInBounds o (.int .i64 (s + 1))).setIfInBounds (o + 1) (.int .i64 n)) 44) := by unfold Hid; rw [← hW]; exact hBW.alloc _
  have HG : Hid (∀ k, k < w.heap.size → k ≠ R → W.heap[k]? = w.heap[k]?) := by
    intro k hk hkR
    rw [← hW, Below.heap_alloc _ _ _ (by simpa using hk), Below.heap_setCell _ _ _ _ (by simpa using hkR), Below.heap_setCell _ _ _ _ (by simpa using hkR)]
  have HT : Hid (W.os = w.os ∧ W.tape = w.tape ∧ W.output = w.output) := by unfold Hid; rw [← hW]; exact ⟨rfl, rfl, rfl⟩
  have c0 : W.cell? ⟨R, 0, none⟩ = some (.slice ao n cap) := by
    rw [← hW, World.cell?_alloc_lt _ _ _ (by simpa using hR), World.cell?_setCell_other _ _ _ _ (by simp), World.cell?_setCell_other _ _ _ _ (by simp <;> omega)]
    exact h2
  have HO : Hid (∀ (ob : Obj) b, ao = some b → ∀ j u, olds[j]? = some u → (W.alloc ob).cell? (b.add j) = some u) := by
    intro ob b hao j u hu
    have h := holds b hao j u hu
    have hlt := World.block_lt_of_cell? _ _ h
    have hne := hb b hao
    rw [World.cell?_alloc_lt _ _ _ (by rw [HSZ.out]; exact Nat.lt_succ_of_lt hlt), ← hW, World.cell?_alloc_lt _ _ _ (by simpa using hlt), World.cell?_setCell_other, World.cell?_setCell_other]
    · exact h
    · intro e; apply hne; rw [← add_block b j, ← e]
    · intro e; apply hne; rw [← add_block b j, ← e]
  have bF : Blk W w.heap.size #[.int .i64 ln, .int .i64 sv, .string pa, .string tx, .int .i64 mo, .int .i64 la] 31 := by
    rw [← hW]
    have := Blk.new ((w.setCell ⟨R, o, none⟩ (.int .i64 (s + 1))).setCell ⟨R, o + 1, none⟩ (.int .i64 n)) #[.int .i64 ln, .int .i64 sv, .string pa, .string tx, .int .i64 mo, .int .i64 la] 31
    simpa using this
  have hfR : W.frozen? ⟨R, 0, none⟩ = false := HBW.out.frozen 0
  have HN : Hid (∀ j u, (fnd ln sv pa tx mo la)[j]? = some u → (W.alloc (.cells #[.int .i64 ln, .int .i64 sv, .string pa, .string tx, .int .i64 mo, .int .i64 la] 31)).cell? (Addr.add ⟨W.heap.size, 0, none⟩ j) = some u) := by
    intro j u hu
    rw [Addr.add_lit, Nat.zero_add, (Blk.new W _ 31).cell]
    simpa [fnd] using hu
  have H1 : Hid (∀ u ∈ fnd ln sv pa tx mo la, u.oneCell' = true) := by
    intro u hu
    simp [fnd] at hu
    rcases hu with rfl | rfl | rfl | rfl | rfl | rfl <;> rfl
  have KR : Hid (∀ ob w', ((W.alloc ob).drew).grownBy w' none → w'.cell? ⟨R, 0, none⟩ = some (.slice ao n cap) ∧ w'.frozen? ⟨R, 0, none⟩ = false) := by
    intro ob w' hg
    have hl : R < (W.alloc ob).drew.heap.size := by simp [HSZ.out]; omega
    have e := hg.block R hl (by simp)
    refine ⟨?_, ?_⟩
    · rw [World.cell?_of_block (w := (W.alloc ob).drew) e]
      show (W.alloc ob).cell? _ = _
      rw [World.cell?_alloc_lt _ _ _ (by rw [HSZ.out]; show R < _; omega)]; exact c0
    · rw [World.frozen?_of_block (w := (W.alloc ob).drew) e]
      show (W.alloc ob).frozen? _ = _
      rw [World.frozen?_alloc_old _ _ _ (by rw [HSZ.out]; show R ≠ _; omega)]; exact hfR
  have cA : ∀ ob : Obj, (W.alloc ob).cell? ⟨R, 0, none⟩ = some (.slice ao n cap) := fun ob => by
    rw [World.cell?_alloc_lt _ _ _ (by rw [HSZ.out]; show R < _; omega)]; exact c0
  have k0 := bF.cell 0
  have k1 := bF.cell 1
  have k2 := bF.cell 2
  have k3 := bF.cell 3
  have k4 := bF.cell 4
  have k5 := bF.cell 5
  have HNone := hide hnone
  have HLO := hide hlo
  have HR := hide hR
  clear hW h0 h1 h2 hf hnone hlo holds hb hBW hR
  go_region_law (refine step_append_grows rfl (.tmp 25) (.tmp 27) 26 rfl 31 i0 _ 6 64 Ybad.underlying26 hi hz0 hz1 hz2 rfl (by decide) ao n cap olds (by simp [Act.eval]) HNone.out HLO.out (HO.out _) ⟨W.heap.size, 0, none⟩ 1 1 (fnd ln sv pa tx mo la) (by simp [Act.eval]) rfl HN.out H1.out hcap (by unfold maxLen; omega) (by omega) ?_; intro v' w' hown hgrow; obtain ⟨g, c', hv⟩ := Joins.ownsRow_form hown (by omega); have hv' := hide hv; rw [hv]; clear hv; have hc' := (KR.out _ _ hgrow).1; have hf' := (KR.out _ _ hgrow).2)
  all_goals
    go_end0
    exact ⟨rfl, show_close HR.out HSZ.out HBW.out HG.out HT.out _ hown hgrow hv'.out⟩
end Go.Proofs.YbulkdtvyDoor.M
