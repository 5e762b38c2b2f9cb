import Derived.Test.YbulkdtvyDoorW7
namespace Go.Proofs.YbulkdtvyDoor.M
open Go.RowKit Go.Shelf

theorem filled_nil : Filled #[] [] 0 0 := ⟨rfl, (fun v hv => by cases hv), (fun j hj => absurd hj (by omega))⟩

set_option maxRecDepth 100000 in
set_option maxHeartbeats 2000000 in
theorem law_nil (ks line : Int) (name : ByteArray) (s0 s1 s2 s3 s4 s5 l0 l1 l2 l3 l4 l5 : Int) (w : World)
    (hk0 : 0 ≤ ks) (hk1 : ks ≤ 255)
    (hs0 : -9223372036854775808 ≤ s0 ∧ s0 ≤ 9223372036854775807)
    (hs1 : -9223372036854775808 ≤ s1 ∧ s1 ≤ 9223372036854775807)
    (hs2 : -9223372036854775808 ≤ s2 ∧ s2 ≤ 9223372036854775807)
    (hs3 : -9223372036854775808 ≤ s3 ∧ s3 ≤ 9223372036854775807)
    (hs4 : -9223372036854775808 ≤ s4 ∧ s4 ≤ 9223372036854775807)
    (hs5 : -9223372036854775808 ≤ s5 ∧ s5 ≤ 9223372036854775807)
    (htx : ∀ k, k < 7 → w.cell? ⟨0, k, none⟩ = some (.string (txt k))) :
    Calls Ybad.prog 3 #[.int .u8 ks, .int .i64 line, .string name, .slice none 0 0, arr6 s0 s1 s2 s3 s4 s5, arr6u l0 l1 l2 l3 l4 l5] w fun e w' => e = .returned (.bool true) ∧ Below w.heap.size w w' := by
  obtain ⟨i0, hi, hz0, hz1, hz2⟩ := inf31
  have hnil := fun w a n c n' c' => run_neq_slice_nil_any (P := Ybad.prog) w 22 28 a n c n' c' Ybad.underlying22
  go_enter Ybad.func3, Ybad.ntmps3
  go_wp2
  have hwo : Below w.heap.size w ((w.alloc (.cells #[.int .i64 s0, .int .i64 s1, .int .i64 s2, .int .i64 s3, .int .i64 s4, .int .i64 s5] 23)).alloc (.cells #[.int .u64 l0, .int .u64 l1, .int .u64 l2, .int .u64 l3, .int .u64 l4, .int .u64 l5] 25)) := (((Below.refl _ _).alloc (Nat.le_refl _) _).alloc (by simp) _)
  have hwz : ((w.alloc (.cells #[.int .i64 s0, .int .i64 s1, .int .i64 s2, .int .i64 s3, .int .i64 s4, .int .i64 s5] 23)).alloc (.cells #[.int .u64 l0, .int .u64 l1, .int .u64 l2, .int .u64 l3, .int .u64 l4, .int .u64 l5] 25)).heap.size = w.heap.size + 2 := by simp
  have B0' : Blk ((w.alloc (.cells #[.int .i64 s0, .int .i64 s1, .int .i64 s2, .int .i64 s3, .int .i64 s4, .int .i64 s5] 23)).alloc (.cells #[.int .u64 l0, .int .u64 l1, .int .u64 l2, .int .u64 l3, .int .u64 l4, .int .u64 l5] 25)) w.heap.size #[.int .i64 s0, .int .i64 s1, .int .i64 s2, .int .i64 s3, .int .i64 s4, .int .i64 s5] 23 := (Blk.new _ _ _).alloc _
  have B1' : Blk ((w.alloc (.cells #[.int .i64 s0, .int .i64 s1, .int .i64 s2, .int .i64 s3, .int .i64 s4, .int .i64 s5] 23)).alloc (.cells #[.int .u64 l0, .int .u64 l1, .int .u64 l2, .int .u64 l3, .int .u64 l4, .int .u64 l5] 25)) (w.heap.size + 1) #[.int .u64 l0, .int .u64 l1, .int .u64 l2, .int .u64 l3, .int .u64 l4, .int .u64 l5] 25 := by
    have := Blk.new (w.alloc (.cells #[.int .i64 s0, .int .i64 s1, .int .i64 s2, .int .i64 s3, .int .i64 s4, .int .i64 s5] 23)) #[.int .u64 l0, .int .u64 l1, .int .u64 l2, .int .u64 l3, .int .u64 l4, .int .u64 l5] 25
    simpa using this
  have ez : w.heap.size + 1 + 1 = ((w.alloc (.cells #[.int .i64 s0, .int .i64 s1, .int .i64 s2, .int .i64 s3, .int .i64 s4, .int .i64 s5] 23)).alloc (.cells #[.int .u64 l0, .int .u64 l1, .int .u64 l2, .int .u64 l3, .int .u64 l4, .int .u64 l5] 25)).heap.size := by simp
  rw [ez]
  generalize ((w.alloc (.cells #[.int .i64 s0, .int .i64 s1, .int .i64 s2, .int .i64 s3, .int .i64 s4, .int .i64 s5] 23)).alloc (.cells #[.int .u64 l0, .int .u64 l1, .int .u64 l2, .int .u64 l3, .int .u64 l4, .int .u64 l5] 25)) = wo at hwo hwz B0' B1' ez ⊢
  clear ez
  have CS : Hid (∀ i v, (#[.int .i64 s0, .int .i64 s1, .int .i64 s2, .int .i64 s3, .int .i64 s4, .int .i64 s5] : Array Value)[i]? = some v → ∀ ob, (wo.alloc ob).cell? ⟨w.heap.size, i, none⟩ = some v) := fun i v h ob => ((B0'.alloc ob).cell i).trans h
  have CL : Hid (∀ i v, (#[.int .u64 l0, .int .u64 l1, .int .u64 l2, .int .u64 l3, .int .u64 l4, .int .u64 l5] : Array Value)[i]? = some v → ∀ ob, (wo.alloc ob).cell? ⟨w.heap.size + 1, i, none⟩ = some v) := fun i v h ob => ((B1'.alloc ob).cell i).trans h
  have HWO := hide hwo
  have HWZ := hide hwz
  clear hwo hwz B0' B1'
  go_loopw [18, 19, 20, 21, 22] (fun i _ _ _ _ ww => ∃ k : Nat, k ≤ 6 ∧ i = .int .i64 k ∧ ww = wo.alloc (.cells (repC (.slice none 0 0) k 0 s0 s1 s2 s3 s4 s5 l0 l1 l2 l3 l4 l5) 44)) (fun i _ _ _ _ _ => 6 - (intOf i).toNat)
  case atStart => exact ⟨0, by omega, rfl, by rw [rep_0]⟩
  case round =>
    obtain ⟨k, hk6, rfl, rfl⟩ := hrel
    by_cases hlt6 : k < 6
    · have cS := CS.out
      have cL := CL.out
      match k, hlt6 with
      | 0, _ =>
        rw [rep_0]
        have hS := cS 0 _ rfl
        have hLa := cL 0 _ rfl
        have hkd := kind_any 0 (by omega)
        by_cases h3 : 3 ≤ s0
        · have h3d : decide (3 ≤ s0) = true := decide_eq_true h3
          go_wp2_with (go_at_call 4; refine (hkd _).mono ?_; rintro e w' ⟨rfl, rfl⟩)
          go_roundw
          case rel => exact ⟨1, by omega, rfl, by rw [rep_1, svf_big (s := s0) rfl h3, lvf_zero rfl l0]⟩
          case measure => simp [intOf]
        · have h3d : decide (3 ≤ s0) = false := decide_eq_false h3
          go_wp2_with (go_at_call 4; refine (hkd _).mono ?_; rintro e w' ⟨rfl, rfl⟩)
          go_roundw
          case rel => exact ⟨1, by omega, rfl, by rw [rep_1, svf_small (s := s0) (by omega), lvf_zero rfl l0]⟩
          case measure => simp [intOf]
      | 1, _ =>
        rw [rep_1]
        have hS := cS 1 _ rfl
        have hLa := cL 1 _ rfl
        have hkd := kind_any 1 (by omega)
        by_cases h3 : 3 ≤ s1
        · have h3d : decide (3 ≤ s1) = true := decide_eq_true h3
          go_wp2_with (go_at_call 4; refine (hkd _).mono ?_; rintro e w' ⟨rfl, rfl⟩)
          go_roundw
          case rel => exact ⟨2, by omega, rfl, by rw [rep_2, svf_big (s := s1) rfl h3, lvf_zero rfl l1]⟩
          case measure => simp [intOf]
        · have h3d : decide (3 ≤ s1) = false := decide_eq_false h3
          go_wp2_with (go_at_call 4; refine (hkd _).mono ?_; rintro e w' ⟨rfl, rfl⟩)
          go_roundw
          case rel => exact ⟨2, by omega, rfl, by rw [rep_2, svf_small (s := s1) (by omega), lvf_zero rfl l1]⟩
          case measure => simp [intOf]
      | 2, _ =>
        rw [rep_2]
        have hS := cS 2 _ rfl
        have hLa := cL 2 _ rfl
        have hkd := kind_any 2 (by omega)
        by_cases h3 : 3 ≤ s2
        · have h3d : decide (3 ≤ s2) = true := decide_eq_true h3
          go_wp2_with (go_at_call 4; refine (hkd _).mono ?_; rintro e w' ⟨rfl, rfl⟩)
          go_roundw
          case rel => exact ⟨3, by omega, rfl, by rw [rep_3, svf_big (s := s2) rfl h3, lvf_zero rfl l2]⟩
          case measure => simp [intOf]
        · have h3d : decide (3 ≤ s2) = false := decide_eq_false h3
          go_wp2_with (go_at_call 4; refine (hkd _).mono ?_; rintro e w' ⟨rfl, rfl⟩)
          go_roundw
          case rel => exact ⟨3, by omega, rfl, by rw [rep_3, svf_small (s := s2) (by omega), lvf_zero rfl l2]⟩
          case measure => simp [intOf]
      | 3, _ =>
        rw [rep_3]
        have hS := cS 3 _ rfl
        have hLa := cL 3 _ rfl
        have hkd := kind_any 3 (by omega)
        by_cases h3 : 3 ≤ s3
        · have h3d : decide (3 ≤ s3) = true := decide_eq_true h3
          go_wp2_with (go_at_call 4; refine (hkd _).mono ?_; rintro e w' ⟨rfl, rfl⟩)
          go_roundw
          case rel => exact ⟨4, by omega, rfl, by rw [rep_4, svf_big (s := s3) rfl h3, lvf_zero rfl l3]⟩
          case measure => simp [intOf]
        · have h3d : decide (3 ≤ s3) = false := decide_eq_false h3
          go_wp2_with (go_at_call 4; refine (hkd _).mono ?_; rintro e w' ⟨rfl, rfl⟩)
          go_roundw
          case rel => exact ⟨4, by omega, rfl, by rw [rep_4, svf_small (s := s3) (by omega), lvf_zero rfl l3]⟩
          case measure => simp [intOf]
      | 4, _ =>
        rw [rep_4]
        have hS := cS 4 _ rfl
        have hLa := cL 4 _ rfl
        have hkd := kind_any 4 (by omega)
        by_cases h3 : 3 ≤ s4
        · have h3d : decide (3 ≤ s4) = true := decide_eq_true h3
          go_wp2_with (go_at_call 4; refine (hkd _).mono ?_; rintro e w' ⟨rfl, rfl⟩)
          go_roundw
          case rel => exact ⟨5, by omega, rfl, by rw [rep_5, svf_big (s := s4) rfl h3, lvf_zero rfl l4]⟩
          case measure => simp [intOf]
        · have h3d : decide (3 ≤ s4) = false := decide_eq_false h3
          go_wp2_with (go_at_call 4; refine (hkd _).mono ?_; rintro e w' ⟨rfl, rfl⟩)
          go_roundw
          case rel => exact ⟨5, by omega, rfl, by rw [rep_5, svf_small (s := s4) (by omega), lvf_zero rfl l4]⟩
          case measure => simp [intOf]
      | 5, _ =>
        rw [rep_5]
        have hS := cS 5 _ rfl
        have hLa := cL 5 _ rfl
        have hkd := kind_any 5 (by omega)
        by_cases h3 : 3 ≤ s5
        · have h3d : decide (3 ≤ s5) = true := decide_eq_true h3
          go_wp2_with (go_at_call 4; refine (hkd _).mono ?_; rintro e w' ⟨rfl, rfl⟩)
          go_roundw
          case rel => exact ⟨6, by omega, rfl, by rw [rep_6, svf_big (s := s5) rfl h3, lvf_zero rfl l5]⟩
          case measure => simp [intOf]
        · have h3d : decide (3 ≤ s5) = false := decide_eq_false h3
          go_wp2_with (go_at_call 4; refine (hkd _).mono ?_; rintro e w' ⟨rfl, rfl⟩)
          go_roundw
          case rel => exact ⟨6, by omega, rfl, by rw [rep_6, svf_small (s := s5) (by omega), lvf_zero rfl l5]⟩
          case measure => simp [intOf]
    · have hk6' : k = 6 := by omega
      subst hk6'
      rw [rep_6]
      clear hk6 hlt6
      go_wp2_with fail
      have bR2 : Blk ((wo.alloc (.cells (repQ (.slice none 0 0) (qf (svf 0 s0) (svf 0 s1) (svf 0 s2) (svf 0 s3) (svf 0 s4) (svf 0 s5) (lvf 0 l0) (lvf 0 l1) (lvf 0 l2) (lvf 0 l3) (lvf 0 l4) (lvf 0 l5))) 44)).alloc (.cells (befQ (qf (svf 0 s0) (svf 0 s1) (svf 0 s2) (svf 0 s3) (svf 0 s4) (svf 0 s5) (lvf 0 l0) (lvf 0 l1) (lvf 0 l2) (lvf 0 l3) (lvf 0 l4) (lvf 0 l5))) 42)) wo.heap.size (repQ (.slice none 0 0) (qf (svf 0 s0) (svf 0 s1) (svf 0 s2) (svf 0 s3) (svf 0 s4) (svf 0 s5) (lvf 0 l0) (lvf 0 l1) (lvf 0 l2) (lvf 0 l3) (lvf 0 l4) (lvf 0 l5))) 44 := (Blk.new _ _ _).alloc _
      have bB2 : Blk ((wo.alloc (.cells (repQ (.slice none 0 0) (qf (svf 0 s0) (svf 0 s1) (svf 0 s2) (svf 0 s3) (svf 0 s4) (svf 0 s5) (lvf 0 l0) (lvf 0 l1) (lvf 0 l2) (lvf 0 l3) (lvf 0 l4) (lvf 0 l5))) 44)).alloc (.cells (befQ (qf (svf 0 s0) (svf 0 s1) (svf 0 s2) (svf 0 s3) (svf 0 s4) (svf 0 s5) (lvf 0 l0) (lvf 0 l1) (lvf 0 l2) (lvf 0 l3) (lvf 0 l4) (lvf 0 l5))) 42)) (wo.heap.size + 1) (befQ (qf (svf 0 s0) (svf 0 s1) (svf 0 s2) (svf 0 s3) (svf 0 s4) (svf 0 s5) (lvf 0 l0) (lvf 0 l1) (lvf 0 l2) (lvf 0 l3) (lvf 0 l4) (lvf 0 l5))) 42 := by
        have := Blk.new (wo.alloc (.cells (repQ (.slice none 0 0) (qf (svf 0 s0) (svf 0 s1) (svf 0 s2) (svf 0 s3) (svf 0 s4) (svf 0 s5) (lvf 0 l0) (lvf 0 l1) (lvf 0 l2) (lvf 0 l3) (lvf 0 l4) (lvf 0 l5))) 44)) (befQ (qf (svf 0 s0) (svf 0 s1) (svf 0 s2) (svf 0 s3) (svf 0 s4) (svf 0 s5) (lvf 0 l0) (lvf 0 l1) (lvf 0 l2) (lvf 0 l3) (lvf 0 l4) (lvf 0 l5))) 42
        simpa using this
      have hB2 : Below w.heap.size w ((wo.alloc (.cells (repQ (.slice none 0 0) (qf (svf 0 s0) (svf 0 s1) (svf 0 s2) (svf 0 s3) (svf 0 s4) (svf 0 s5) (lvf 0 l0) (lvf 0 l1) (lvf 0 l2) (lvf 0 l3) (lvf 0 l4) (lvf 0 l5))) 44)).alloc (.cells (befQ (qf (svf 0 s0) (svf 0 s1) (svf 0 s2) (svf 0 s3) (svf 0 s4) (svf 0 s5) (lvf 0 l0) (lvf 0 l1) (lvf 0 l2) (lvf 0 l3) (lvf 0 l4) (lvf 0 l5))) 42)) :=
        ((HWO.out).alloc (by have := HWZ.out; omega) _).alloc (by have := HWZ.out; simp; omega) _
      have hsz2 : ((wo.alloc (.cells (repQ (.slice none 0 0) (qf (svf 0 s0) (svf 0 s1) (svf 0 s2) (svf 0 s3) (svf 0 s4) (svf 0 s5) (lvf 0 l0) (lvf 0 l1) (lvf 0 l2) (lvf 0 l3) (lvf 0 l4) (lvf 0 l5))) 44)).alloc (.cells (befQ (qf (svf 0 s0) (svf 0 s1) (svf 0 s2) (svf 0 s3) (svf 0 s4) (svf 0 s5) (lvf 0 l0) (lvf 0 l1) (lvf 0 l2) (lvf 0 l3) (lvf 0 l4) (lvf 0 l5))) 42)).heap.size = wo.heap.size + 2 := by simp
      generalize hW2 : ((wo.alloc (.cells (repQ (.slice none 0 0) (qf (svf 0 s0) (svf 0 s1) (svf 0 s2) (svf 0 s3) (svf 0 s4) (svf 0 s5) (lvf 0 l0) (lvf 0 l1) (lvf 0 l2) (lvf 0 l3) (lvf 0 l4) (lvf 0 l5))) 44)).alloc (.cells (befQ (qf (svf 0 s0) (svf 0 s1) (svf 0 s2) (svf 0 s3) (svf 0 s4) (svf 0 s5) (lvf 0 l0) (lvf 0 l1) (lvf 0 l2) (lvf 0 l3) (lvf 0 l4) (lvf 0 l5))) 42)) = w3 at bR2 bB2 hB2 hsz2
      have hW2' : ((wo.alloc (.cells #[.slice none 0 0, .slice none 0 0, .slice none 0 0, .slice none 0 0, .map none, .string ⟨#[]⟩, .pointer none, .int .i64 0, .int .i64 0, .int .i64 0, .int .i64 0, .int .i64 0, .int .i64 0, .int .i64 0, .int .i64 0, .int .i64 0, .int .i64 0, .int .i64 (svf 0 s0), .int .i64 (lvf 0 l0), .int .i64 (svf 0 s1), .int .i64 (lvf 0 l1), .int .i64 (svf 0 s2), .int .i64 (lvf 0 l2), .int .i64 (svf 0 s3), .int .i64 (lvf 0 l3), .int .i64 (svf 0 s4), .int .i64 (lvf 0 l4), .int .i64 (svf 0 s5), .int .i64 (lvf 0 l5)] 44)).alloc (.cells #[.int .i64 0, .int .i64 0, .int .i64 (svf 0 s0), .int .i64 (lvf 0 l0), .int .i64 (svf 0 s1), .int .i64 (lvf 0 l1), .int .i64 (svf 0 s2), .int .i64 (lvf 0 l2), .int .i64 (svf 0 s3), .int .i64 (lvf 0 l3), .int .i64 (svf 0 s4), .int .i64 (lvf 0 l4), .int .i64 (svf 0 s5), .int .i64 (lvf 0 l5)] 42)) = w3 := hW2
      rw [hW2']
      clear hW2 hW2' CS CL
      have hTQ := tallies 0 (by omega) s0 s1 s2 s3 s4 s5 l0 l1 l2 l3 l4 l5 hs0 hs1 hs2 hs3 hs4 hs5
      generalize qf (svf 0 s0) (svf 0 s1) (svf 0 s2) (svf 0 s3) (svf 0 s4) (svf 0 s5) (lvf 0 l0) (lvf 0 l1) (lvf 0 l2) (lvf 0 l3) (lvf 0 l4) (lvf 0 l5) = q at bR2 bB2 hTQ
      obtain ⟨i, hi6, hks⟩ : ∃ i : Nat, i < 6 ∧ ks % 6 = (i : Int) := ⟨(ks % 6).toNat, by omega, by omega⟩
      have hT := hTQ i hi6
      clear hTQ
      refine (clone_nil 0 0 w3).mono ?_
      rintro e w3' ⟨rfl, hw3⟩
      obtain rfl : w3 = w3' := hw3.symm
      have htx3 : ∀ k, k < 7 → w3.cell? ⟨0, k, none⟩ = some (.string (txt k)) := fun k hk => (hB2.cell (p := ⟨0, k, none⟩) (World.block_lt_of_cell? _ _ (htx k hk))).trans (htx k hk)
      have hg0 : 0 < w.heap.size := World.block_lt_of_cell? _ _ (htx 0 (by omega))
      have hR3 := bR2.lt
      have hB3s := bB2.lt
      obtain ⟨R, hR⟩ : ∃ R, wo.heap.size = R := ⟨_, rfl⟩
      have hwR := HWZ.out
      rw [hR] at bR2 bB2 hR3 hB3s hsz2 hwR
      rw [hR]
      have hwR' : w.heap.size < R := by omega
      have HKD := hide (kind_any i hi6)
      have cb0 : w3.cell? ⟨R + 1, (i + 1) * 2, none⟩ = some (.int .i64 (q ((i + 1) * 2))) := (bB2.cell _).trans (befQ_at q _ (by omega))
      have cb1 : w3.cell? ⟨R + 1, (i + 1) * 2 + 1, none⟩ = some (.int .i64 (q ((i + 1) * 2 + 1))) := (bB2.cell _).trans (befQ_at q _ (by omega))
      obtain ⟨t, Ht⟩ : ∃ t, q ((i + 1) * 2) = t := ⟨_, rfl⟩
      obtain ⟨u, Hu⟩ : ∃ u, q ((i + 1) * 2 + 1) = u := ⟨_, rfl⟩
      rw [Ht, Hu] at hT
      rw [Ht] at cb0
      rw [Hu] at cb1
      have ht3 : t < 3 := by
        rcases Int.lt_or_le t 3 with h | h
        · exact h
        · exact absurd (hT.2 h).1 (by omega)
      have htlo := hT.1.1
      have HHt := hide Ht
      have HHu := hide Hu
      have HBR3 := hide bR2
      have HBB3 := hide bB2
      have HB03 := hide hB2
      have HTX3 := hide htx3
      have HSZ2 := hide hsz2
      clear hT Ht Hu bR2 bB2 hB2 htx3 hsz2 htx hR hwR HWZ HWO
      have hi7 : i + 1 < 7 := by omega
      go_wp2_with (go_at_call 4; refine (HKD.out _).mono ?_; rintro e w' ⟨rfl, hw'⟩; obtain rfl : w3 = w' := hw'.symm)
      rw [show ((i : Int) + 1) = ((i + 1 : Nat) : Int) from by omega]
      have bR4 : Blk (w3.alloc (.cells #[.int .i64 t, .int .i64 u] 41)) R (repQ (.slice none 0 0) q) 44 := HBR3.out.alloc _
      have bB4 : Blk (w3.alloc (.cells #[.int .i64 t, .int .i64 u] 41)) (R + 1) (befQ q) 42 := HBB3.out.alloc _
      have bT4 : Blk (w3.alloc (.cells #[.int .i64 t, .int .i64 u] 41)) w3.heap.size #[.int .i64 t, .int .i64 u] 41 := Blk.new _ _ _
      have hB4 : Below w.heap.size w (w3.alloc (.cells #[.int .i64 t, .int .i64 u] 41)) := HB03.out.alloc HB03.out.size _
      generalize hW4 : (w3.alloc (.cells #[.int .i64 t, .int .i64 u] 41)) = W4 at bR4 bB4 bT4 hB4 ⊢
      refine (oddity_no R 0 0 (i + 1) none _ [] line t u name (txt (i + 1)) W4 (by omega) (by omega) ht3 htlo hi7 bR4 (by rw [repQ_at _ _ _ (by omega), HHt.out]) (by rw [show 15 + (i + 1) * 2 + 1 = 15 + ((i + 1) * 2 + 1) from by omega, repQ_at _ _ _ (by omega), HHu.out]) rfl (fun _ => ⟨rfl, rfl⟩) rfl (fun b hb => by cases hb) (fun b hb => by cases hb) (by rw [← hW4, World.cell?_alloc_lt _ _ _ (by have := HB03.out.size; show 0 < _; omega)]; exact HTX3.out _ hi7)).mono ?_
      rintro e w5 ⟨rfl, v3, bR5, hown3, hgr5⟩
      obtain ⟨g3, c3, cur3, rfl, hg3', bg3, hc3, hc3', hsz3, hcur3⟩ := own_open hown3 (by
        intro e
        obtain ⟨g, c, h⟩ := Joins.ownsRow_form hown3 (by omega)
        rw [h] at e; cases e)
      rw [rep_up _ _ _ _ hi6] at bR5
      have bB5 := Blk.grown hgr5 bB4 (by intro e; injection e; omega)
      have bT5 := Blk.grown hgr5 bT4 (by intro e; injection e; omega)
      have hB5 : Below w.heap.size w w5 := hB4.grown hgr5 (by have := bT4.lt; have := HB03.out.size; omega) (by intro k hk; injection hk; omega)
      have hW4s := bT4.lt
      have hB5l := bB5.lt
      have hT5l := bT5.lt
      have hR5l := bR5.lt
      have hg3l := bg3.lt
      have ct0 := bT5.cell 0
      have ct1 := bT5.cell 1
      have h3d : decide (3 ≤ t) = false := decide_eq_false (by omega)
      have HB5 := hide hB5
      have HBR5 := hide bR5
      have HBB5 := hide bB5
      have HBg3 := hide bg3
      have HBT5 := hide bT5
      have HCUR3 := hide hcur3
      have H1F : Hid (∀ u ∈ fnd line 1 name (txt (i + 1)) 0 0, u.oneCell' = true) := by
        intro u hu
        simp [fnd] at hu
        rcases hu with rfl | rfl | rfl | rfl | rfl <;> rfl
      have KA : Hid (∀ (ob : Obj) w7, (w5.alloc ob).grownBy w7 (Value.slice none 0 0).ownBlock → ∀ b c t, b < w5.heap.size → Blk w5 b c t → Blk w7 b c t) := by
        intro ob w7 hg b c t hb hB
        exact Blk.grown hg (hB.alloc ob) (fun e => by cases e)
      have HQ0 : Hid ((befQ q)[(i + 1) * 2]? = some (.int .i64 (q ((i + 1) * 2)))) := befQ_at q _ (by omega)
      have HQ1 : Hid ((befQ q)[(i + 1) * 2 + 1]? = some (.int .i64 (q ((i + 1) * 2 + 1)))) := befQ_at q _ (by omega)
      have HCN := hide (clone_nil 0 0 w5)
      clear bR4 bB4 bT4 hB4 bR5 bB5 bg3 bT5 hB5 hgr5 hW4 cb0 cb1 hown3 hcur3
      go_wp2_with (first | (go_at_call 5; refine HCN.out.mono ?_; rintro e w' ⟨rfl, hw'⟩; obtain rfl : w5 = w' := hw'.symm) | (at_builtin; refine wpList_append_own _ rfl _ _ 26 rfl w5.heap.size 31 i0 _ 6 64 Ybad.underlying26 hi hz0 hz1 hz2 rfl (by decide) (.slice none 0 0) 0 [] rfl (World.ownsRow_nil _ _ 31 6) ⟨w5.heap.size, 0, none⟩ 1 1 (fnd line 1 name (txt (i + 1)) 0 0) rfl rfl (new_cells _ _ _) H1F.out (by unfold maxLen; omega) (by omega) (by simp) ?_; intro v4 w7 hown4 hgrow4 hnil4; have HOWN4 := hide hown4; have HGR4 := hide hgrow4; have ct0 : w7.cell? ⟨w3.heap.size, 0, none⟩ = some (.int .i64 t) := (KA.out _ _ hgrow4 _ _ _ hT5l HBT5.out).cell 0; have cw0 := ((KA.out _ _ hgrow4 _ _ _ hB5l HBB5.out).cell _).trans HQ0.out; have cw1 := ((KA.out _ _ hgrow4 _ _ _ hB5l HBB5.out).cell _).trans HQ1.out; have fw := (KA.out _ _ hgrow4 _ _ _ hB5l HBB5.out).frozen; clear hown4 hgrow4 hnil4))
      obtain ⟨g4, c4, cur4, rfl, hg4, bg4, hc4, hc4', hsz4, hcur4⟩ := own_open HOWN4.out (by
        intro e
        obtain ⟨g, c, h⟩ := Joins.ownsRow_form HOWN4.out (by omega)
        rw [h] at e; cases e)
      have bR8 := ((KA.out _ _ HGR4.out _ _ _ hR5l HBR5.out).other ⟨R + 1, (i + 1) * 2, none⟩ (.int .i64 (t + 1)) (by show R ≠ R + 1; omega)).other ⟨R + 1, (i + 1) * 2 + 1, none⟩ (.int .i64 0) (by show R ≠ R + 1; omega)
      have bg38 := ((KA.out _ _ HGR4.out _ _ _ hg3l HBg3.out).other ⟨R + 1, (i + 1) * 2, none⟩ (.int .i64 (t + 1)) (by show g3 ≠ R + 1; omega)).other ⟨R + 1, (i + 1) * 2 + 1, none⟩ (.int .i64 0) (by show g3 ≠ R + 1; omega)
      have bg48 := (bg4.other ⟨R + 1, (i + 1) * 2, none⟩ (.int .i64 (t + 1)) (by show g4 ≠ R + 1; omega)).other ⟨R + 1, (i + 1) * 2 + 1, none⟩ (.int .i64 0) (by show g4 ≠ R + 1; omega)
      have bB8 := ((KA.out _ _ HGR4.out _ _ _ hB5l HBB5.out).same ((i + 1) * 2) (.int .i64 (t + 1))).same ((i + 1) * 2 + 1) (.int .i64 0)
      rw [bef_up _ _ hi6] at bB8
      have hB7 : Below w.heap.size w w7 := ((HB5.out).alloc HB5.out.size _).grown HGR4.out (by simp; have := HB5.out.size; omega) (fun k hk => by cases hk)
      have hB8 : Below w.heap.size w ((w7.setCell ⟨R + 1, (i + 1) * 2, none⟩ (.int .i64 (t + 1))).setCell ⟨R + 1, (i + 1) * 2 + 1, none⟩ (.int .i64 0)) := (hB7.setCell (by show w.heap.size ≤ R + 1; omega) _).setCell (by show w.heap.size ≤ R + 1; omega) _
      generalize hW8 : ((w7.setCell ⟨R + 1, (i + 1) * 2, none⟩ (.int .i64 (t + 1))).setCell ⟨R + 1, (i + 1) * 2 + 1, none⟩ (.int .i64 0)) = W8 at bR8 bg38 bg48 bB8 hB8 ⊢
      have eq' : qUp q i (t + 1) ((0 : Nat) : Int) = qUp q i (t + 1) 0 := rfl
      rw [eq'] at bR8
      generalize qUp q i (t + 1) 0 = q' at bR8 bB8
      have HEQ : Hid (∀ q, Calls Ybad.prog 7 #[.slice (some ⟨g3, 0, none⟩) 1 c3, .slice (some ⟨g4, 0, none⟩) 1 c4] (W8.drewN q) fun e w' => e = .returned (.bool true) ∧ ∃ m, w' = (W8.drewN q).drewN m) := by
        intro q
        refine equal_same g3 0 1 c3 g4 0 c4 ([] ++ [(line, 1, name, txt (i + 1), 0, 0)]) (W8.drewN q) rfl (by omega) ?_ ?_
        · intro j hj p v hv
          rw [(bg38.drewN q).cell]
          exact more_cells rfl filled_nil (fun p hp => HCUR3.out p hp) j hj p v hv
        · intro j hj p v hv
          rw [(bg48.drewN q).cell]
          exact more_cells rfl filled_nil (fun p hp => hcur4 p hp) j hj p v hv
      have cr0 : W8.cell? ⟨R, 15, none⟩ = some (.int .i64 (q' 0)) := bR8.cell 15
      have cr1 : W8.cell? ⟨R, 16, none⟩ = some (.int .i64 (q' 1)) := bR8.cell 16
      have cr2 : W8.cell? ⟨R, 17, none⟩ = some (.int .i64 (q' 2)) := bR8.cell 17
      have cr3 : W8.cell? ⟨R, 18, none⟩ = some (.int .i64 (q' 3)) := bR8.cell 18
      have cr4 : W8.cell? ⟨R, 19, none⟩ = some (.int .i64 (q' 4)) := bR8.cell 19
      have cr5 : W8.cell? ⟨R, 20, none⟩ = some (.int .i64 (q' 5)) := bR8.cell 20
      have cr6 : W8.cell? ⟨R, 21, none⟩ = some (.int .i64 (q' 6)) := bR8.cell 21
      have cr7 : W8.cell? ⟨R, 22, none⟩ = some (.int .i64 (q' 7)) := bR8.cell 22
      have cr8 : W8.cell? ⟨R, 23, none⟩ = some (.int .i64 (q' 8)) := bR8.cell 23
      have cr9 : W8.cell? ⟨R, 24, none⟩ = some (.int .i64 (q' 9)) := bR8.cell 24
      have cr10 : W8.cell? ⟨R, 25, none⟩ = some (.int .i64 (q' 10)) := bR8.cell 25
      have cr11 : W8.cell? ⟨R, 26, none⟩ = some (.int .i64 (q' 11)) := bR8.cell 26
      have cr12 : W8.cell? ⟨R, 27, none⟩ = some (.int .i64 (q' 12)) := bR8.cell 27
      have cr13 : W8.cell? ⟨R, 28, none⟩ = some (.int .i64 (q' 13)) := bR8.cell 28
      have cq0 : W8.cell? ⟨R + 1, 0, none⟩ = some (.int .i64 (q' 0)) := bB8.cell 0
      have cq1 : W8.cell? ⟨R + 1, 1, none⟩ = some (.int .i64 (q' 1)) := bB8.cell 1
      have cq2 : W8.cell? ⟨R + 1, 2, none⟩ = some (.int .i64 (q' 2)) := bB8.cell 2
      have cq3 : W8.cell? ⟨R + 1, 3, none⟩ = some (.int .i64 (q' 3)) := bB8.cell 3
      have cq4 : W8.cell? ⟨R + 1, 4, none⟩ = some (.int .i64 (q' 4)) := bB8.cell 4
      have cq5 : W8.cell? ⟨R + 1, 5, none⟩ = some (.int .i64 (q' 5)) := bB8.cell 5
      have cq6 : W8.cell? ⟨R + 1, 6, none⟩ = some (.int .i64 (q' 6)) := bB8.cell 6
      have cq7 : W8.cell? ⟨R + 1, 7, none⟩ = some (.int .i64 (q' 7)) := bB8.cell 7
      have cq8 : W8.cell? ⟨R + 1, 8, none⟩ = some (.int .i64 (q' 8)) := bB8.cell 8
      have cq9 : W8.cell? ⟨R + 1, 9, none⟩ = some (.int .i64 (q' 9)) := bB8.cell 9
      have cq10 : W8.cell? ⟨R + 1, 10, none⟩ = some (.int .i64 (q' 10)) := bB8.cell 10
      have cq11 : W8.cell? ⟨R + 1, 11, none⟩ = some (.int .i64 (q' 11)) := bB8.cell 11
      have cq12 : W8.cell? ⟨R + 1, 12, none⟩ = some (.int .i64 (q' 12)) := bB8.cell 12
      have cq13 : W8.cell? ⟨R + 1, 13, none⟩ = some (.int .i64 (q' 13)) := bB8.cell 13
      have cz0 : W8.cell? ⟨R, 0, none⟩ = some (.slice (some ⟨g3, 0, none⟩) 1 c3) := bR8.cell 0
      have cz1 : W8.cell? ⟨R, 1, none⟩ = some (.slice none 0 0) := bR8.cell 1
      have cz2 : W8.cell? ⟨R, 2, none⟩ = some (.slice none 0 0) := bR8.cell 2
      have cz3 : W8.cell? ⟨R, 3, none⟩ = some (.slice none 0 0) := bR8.cell 3
      have cz4 : W8.cell? ⟨R, 4, none⟩ = some (.map none) := bR8.cell 4
      have cz5 : W8.cell? ⟨R, 5, none⟩ = some (.string ⟨#[]⟩) := bR8.cell 5
      have cz6 : W8.cell? ⟨R, 6, none⟩ = some (.pointer none) := bR8.cell 6
      have cz7 : W8.cell? ⟨R, 7, none⟩ = some (.int .i64 0) := bR8.cell 7
      have cz8 : W8.cell? ⟨R, 8, none⟩ = some (.int .i64 0) := bR8.cell 8
      have cz9 : W8.cell? ⟨R, 9, none⟩ = some (.int .i64 0) := bR8.cell 9
      have cz10 : W8.cell? ⟨R, 10, none⟩ = some (.int .i64 0) := bR8.cell 10
      have cz11 : W8.cell? ⟨R, 11, none⟩ = some (.int .i64 0) := bR8.cell 11
      have cz12 : W8.cell? ⟨R, 12, none⟩ = some (.int .i64 0) := bR8.cell 12
      have cz13 : W8.cell? ⟨R, 13, none⟩ = some (.int .i64 0) := bR8.cell 13
      have cz14 : W8.cell? ⟨R, 14, none⟩ = some (.int .i64 0) := bR8.cell 14
      have hneq := fun w => neq42 w q'
      have hneq1 := fun w => neq41 w 0 0
      have hq37 := fun w a n c n' c' => Lib.run_eql_slice_nil (P := Ybad.prog) w 37 79 a n c n' c' Ybad.underlying37
      have hq33 := fun w a n c n' c' => Lib.run_eql_slice_nil (P := Ybad.prog) w 33 77 a n c n' c' Ybad.underlying33
      have hq34 := fun w a n c n' c' => Lib.run_eql_slice_nil (P := Ybad.prog) w 34 51 a n c n' c' Ybad.underlying34
      have hq38 := fun w r => run_eql_map_nil (P := Ybad.prog) w 38 9 39 r Ybad.underlying38
      have HB8 := hide hB8
      clear hB8 hB7 bR8 bg38 bg48 bB8 bg4 hcur4 hW8 cw0 cw1 fw ct0
      go_quiet ((go_at_call 7; exact Calls.quiet_of (HEQ.out _)))
      go_wp2_with fail
      go_ret
      exact ⟨rfl, below_drewN HB8.out _⟩
end Go.Proofs.YbulkdtvyDoor.M
