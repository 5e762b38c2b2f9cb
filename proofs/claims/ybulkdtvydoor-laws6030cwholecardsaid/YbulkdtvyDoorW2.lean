import Derived.Test.YbulkdtvyDoorW1
import Derived.Deep.RegionWith
import Derived.Deep.DeepFit
namespace Go.Proofs.YbulkdtvyDoor.M
open Go.RowKit

/-- what counted leaves behind oddity -/
def CountPost (w w' : World) (G l : Nat) (D : Array Value) (m line : Int) : Prop :=
  Blk w' G ((D.setIfInBounds (l * 6 + 4) (.int .i64 (wrap64 (m + 1)))).setIfInBounds (l * 6 + 5) (.int .i64 line)) 31 ∧ w.grownBy w' (some G)

theorem count_grown {w : World} {G : Nat} (_hG : G < w.heap.size) (ob : Obj) (p q : Nat) {o1 o2 : Nat} (u v : Value) :
    w.grownBy (((((w.alloc ob).drewN p).setCell ⟨G, o1, none⟩ u).setCell ⟨G, o2, none⟩ v).drewN q) (some G) := by
  refine ⟨rfl, rfl, rfl, ?_, ?_⟩
  · show w.heap.size ≤ ((((w.alloc ob).drewN p).setCell ⟨G, o1, none⟩ u).setCell ⟨G, o2, none⟩ v).heap.size
    rw [World.size_setCell, World.size_setCell]
    show w.heap.size ≤ (w.alloc ob).heap.size
    simp
  · intro k hk hne
    have hne' : k ≠ G := fun e => hne (by rw [e])
    show ((((w.alloc ob).drewN p).setCell ⟨G, o1, none⟩ u).setCell ⟨G, o2, none⟩ v).heap[k]? = _
    rw [Below.heap_setCell _ _ _ _ hne', Below.heap_setCell _ _ _ _ hne']
    exact Below.heap_alloc _ _ _ hk

set_option maxHeartbeats 1000000 in
theorem oddity_yes (R G n cap l k : Nat) (C D : Array Value) (line s m z : Int) (name : ByteArray) (w : World) (hs : 3 ≤ s) (hl : l < n) (hn : n ≤ 1048576)
    (hz : -9223372036854775808 ≤ s ∧ s ≤ 9223372036854775807) (hk : k < 7)
    (hBR : Blk w R C 44) (hBG : Blk w G D 31)
    (g0 : C[15 + k * 2]? = some (.int .i64 s)) (g1 : C[15 + k * 2 + 1]? = some (.int .i64 l)) (g2 : C[0]? = some (.slice (some ⟨G, 0, none⟩) n cap))
    (g3 : D[l * 6 + 4]? = some (.int .i64 m)) (g4 : D[l * 6 + 5]? = some (.int .i64 z)) :
    Calls Ybad.prog 6 #[.pointer (some ⟨R, 0, none⟩), .agg #[.int .i64 k, .int .i64 line, .string name]] w fun e w' => e = .returned (.tuple #[]) ∧ CountPost w w' G l D m line := by
  have BR : ∀ (ob : Obj) q, Blk ((w.alloc ob).drewN q) R C 44 := fun ob q => (hBR.alloc ob).drewN q
  have BG : ∀ (ob : Obj) q, Blk ((w.alloc ob).drewN q) G D 31 := fun ob q => (hBG.alloc ob).drewN q
  have HBR := hide BR
  have HBG := hide BG
  have G0 := hide g0
  have G1 := hide g1
  have G2 := hide g2
  have G3 := hide g3
  have G4 := hide g4
  have HL := hide hBG
  clear BR BG g0 g1 g2 g3 g4 hBR hBG
  go_enter Ybad.func6, Ybad.ntmps6
  go_wp2
  go_quiet (fail)
  go_wp2_with fail
  refine (counted_yes R (15 + k * 2) G n cap l line s m z _ hs hl hn hz (by rw [(HBR.out _ _).cell]; exact G0.out) (by rw [(HBR.out _ _).cell]; exact G1.out) (by rw [(HBR.out _ _).cell]; exact G2.out) (by rw [(HBG.out _ _).cell]; exact G3.out) (by rw [(HBG.out _ _).cell]; exact G4.out) (fun i => (HBG.out _ _).frozen i)).mono ?_
  rintro e w1 ⟨rfl, q, rfl⟩
  go_wp2_with fail
  go_end0
  exact ⟨rfl, ((HBG.out _ nq).same _ _).same _ _, count_grown (HL.out.lt) _ nq q _ _⟩

theorem show_lift {w w' : World} {ob : Obj} {q R o n : Nat} {C : Array Value} {s : Int} {xs : List Value} (h : ShowPost ((w.alloc ob).drewN q) w' R o n C s xs) : ShowPost w w' R o n C s xs := by
  obtain ⟨v', h1, h2, h3⟩ := h
  have hsz : ((w.alloc ob).drewN q).heap.size = w.heap.size + 1 := by show (w.alloc ob).heap.size = _; simp
  refine ⟨v', h1, ownsRow_base h2 (by rw [hsz]; omega), h3.os, h3.tape, h3.output, by have := h3.size; omega, ?_⟩
  intro k hk hne
  rw [h3.block k (by omega) hne]
  exact Below.heap_alloc _ _ _ hk

set_option maxHeartbeats 1000000 in
theorem oddity_no (R n cap k : Nat) (ao : Option Addr) (C : Array Value) (olds : List Value) (line s l : Int) (name tx : ByteArray) (w : World) (hn : n ≤ 1048576) (hcap : cap < n + 1)
    (hs : s < 3) (hs' : -9223372036854775808 ≤ s) (hk : k < 7) (hBR : Blk w R C 44)
    (g0 : C[15 + k * 2]? = some (.int .i64 s)) (g1 : C[15 + k * 2 + 1]? = some (.int .i64 l)) (g2 : C[0]? = some (.slice ao n cap))
    (hnone : ao = none → n = 0 ∧ cap = 0) (hlo : olds.length = n * 6) (holds : ∀ b, ao = some b → ∀ j u, olds[j]? = some u → w.cell? (b.add j) = some u) (hb : ∀ b, ao = some b → b.block ≠ R)
    (htx : w.cell? ⟨0, k, none⟩ = some (.string tx)) :
    Calls Ybad.prog 6 #[.pointer (some ⟨R, 0, none⟩), .agg #[.int .i64 k, .int .i64 line, .string name]] w fun e w' => e = .returned (.tuple #[]) ∧ ShowPost w w' R (15 + k * 2) n C s (olds ++ fnd line 1 name tx 0 0) := by
  have BR : ∀ (ob : Obj) q, Blk ((w.alloc ob).drewN q) R C 44 := fun ob q => (hBR.alloc ob).drewN q
  have HBR := hide BR
  have G0 := hide g0
  have G1 := hide g1
  have G2 := hide g2
  have HL := hide hBR
  clear BR g0 g1 g2 hBR
  go_enter Ybad.func6, Ybad.ntmps6
  go_wp2
  go_quiet (fail)
  go_wp2_with fail
  refine (counted_no R (15 + k * 2) _ line s _ hs (by rw [(HBR.out _ _).cell]; exact G0.out)).mono ?_
  rintro e w1 ⟨rfl, rfl⟩
  have htA : ∀ (ob : Obj), (w.alloc ob).cell? ⟨0, k, none⟩ = some (.string tx) := fun ob => by
    rw [World.cell?_alloc_lt _ _ _ (World.block_lt_of_cell? _ _ htx)]; exact htx
  have hki : (k : Int) < 7 := by omega
  have HO : Hid (∀ (ob : Obj) q b, ao = some b → ∀ j u, olds[j]? = some u → ((w.alloc ob).drewN q).cell? (b.add j) = some u) := by
    intro ob q b hao j u hu
    have h := holds b hao j u hu
    show (w.alloc ob).cell? _ = _
    rw [World.cell?_alloc_lt _ _ _ (World.block_lt_of_cell? _ _ h)]; exact h
  have HNone := hide hnone
  have HLO := hide hlo
  have HB := hide hb
  clear hnone hlo holds hb
  go_wp2_with fail
  go_region_with (go_at_call 9; refine (show_any R (15 + k * 2) n cap ao C olds line 1 0 0 s l name tx _ hn hcap (by omega) hs hs' (HBR.out _ (nq + 1)) G0.out G1.out G2.out HNone.out HLO.out (HO.out _ (nq + 1)) HB.out).mono ?_; rintro e w' ⟨rfl, hp⟩)
  all_goals
    go_wp2_with fail
    go_end0
    exact ⟨rfl, show_lift hp⟩
end Go.Proofs.YbulkdtvyDoor.M
