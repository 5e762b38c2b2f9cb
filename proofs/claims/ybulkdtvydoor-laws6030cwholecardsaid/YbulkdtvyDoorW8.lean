import Derived.Test.YbulkdtvyDoorW7
namespace Go.Proofs.YbulkdtvyDoor.M
open Go.RowKit Go.Shelf

set_option maxRecDepth 100000 in
set_option maxHeartbeats 2000000 in
theorem law_some (ks line : Int) (name : ByteArray) (a : Addr) (n cap : Nat) (xs : List Fd) (s0 s1 s2 s3 s4 s5 l0 l1 l2 l3 l4 l5 : Int) (w : World)
    (hk0 : 0 ≤ ks) (hk1 : ks ≤ 255) (hx : xs.length = n) (hn : n ≤ 1048576) (hfs : FsAt w (some a) xs)
    (hs0 : -9223372036854775808 ≤ s0 ∧ s0 ≤ 9223372036854775807)
    (hs1 : -9223372036854775808 ≤ s1 ∧ s1 ≤ 9223372036854775807)
    (hs2 : -9223372036854775808 ≤ s2 ∧ s2 ≤ 9223372036854775807)
    (hs3 : -9223372036854775808 ≤ s3 ∧ s3 ≤ 9223372036854775807)
    (hs4 : -9223372036854775808 ≤ s4 ∧ s4 ≤ 9223372036854775807)
    (hs5 : -9223372036854775808 ≤ s5 ∧ s5 ≤ 9223372036854775807)
    (htx : ∀ k, k < 7 → w.cell? ⟨0, k, none⟩ = some (.string (txt k)))
    (hl0 : 0 ≤ l0) (hl1 : 0 ≤ l1) (hl2 : 0 ≤ l2) (hl3 : 0 ≤ l3) (hl4 : 0 ≤ l4) (hl5 : 0 ≤ l5) :
    Calls Ybad.prog 3 #[.int .u8 ks, .int .i64 line, .string name, .slice (some a) n cap, arr6 s0 s1 s2 s3 s4 s5, arr6u l0 l1 l2 l3 l4 l5] w fun e w' => e = .returned (.bool true) ∧ Below w.heap.size w w' := by
  obtain ⟨i0, hi, hz0, hz1, hz2⟩ := inf31
  have hnil := fun w a n c n' c' => run_neq_slice_nil_any (P := Ybad.prog) w 22 28 a n c n' c' Ybad.underlying22
  have hbig : decide ((1048576 : Int) < (n : Int)) = false := decide_eq_false (by omega)
  have HFS := hide hfs
  clear hfs
  go_enter Ybad.func3, Ybad.ntmps3
  go_wp2_with (at_make; refine wpList_make_full _ rfl _ _ 26 rfl w.heap.size 31 i0 _ 6 Ybad.underlying26 hi hz0 hz1 _ _ _ _ n rfl rfl rfl rfl (by rw [hz2]; omega) (by unfold maxLen; omega) (by simp; omega) ?_; intro w1 hown1 hgrow1)
  obtain ⟨hB, b0, b1, D0, bD0, hF0⟩ := made hown1 hgrow1 (made_one n) xs
  clear hown1 hgrow1
  have hL0 : L1 w1 (w.heap.size + 1 + 1) xs n 0 w1 := ⟨D0, bD0, hF0, Below.refl _ _⟩
  have HB := hide hB
  have B0 := hide b0
  have B1 := hide b1
  clear hB b0 b1 bD0 hF0
  go_loopw [15, 16] (fun i f wr => ∃ k : Nat, k ≤ n ∧ i = .int .i64 k ∧ L1 w1 (w.heap.size + 1 + 1) xs n k wr) (fun i _ _ => n - (intOf i).toNat)
  case atStart => exact ⟨0, Nat.zero_le _, rfl, hL0⟩
  case round =>
    obtain ⟨k, hk, rfl, hL⟩ := hrel
    by_cases hlt : k < n
    · obtain ⟨D, bD, hF, hBD⟩ := hL
      obtain ⟨b, off, ha, hb, hc⟩ := HFS.out k (by omega)
      have ha' : a = ⟨b, off, none⟩ := by simpa using ha
      subst ha'
      have hwc : ∀ o, wr.cell? ⟨b, o, none⟩ = w.cell? ⟨b, o, none⟩ := fun o => (hBD.cell (p := ⟨b, o, none⟩) (by show b < _; omega)).trans (HB.out.cell (p := ⟨b, o, none⟩) hb)
      generalize hxk : xs[k]! = x at hc
      obtain ⟨x1, x2, x3, x4, x5, x6⟩ := x
      have c0 := (hwc _).trans (hc 0 _ rfl)
      have c1 := (hwc _).trans (hc 1 _ rfl)
      have c2 := (hwc _).trans (hc 2 _ rfl)
      have c3 := (hwc _).trans (hc 3 _ rfl)
      have c4 := (hwc _).trans (hc 4 _ rfl)
      have c5 := (hwc _).trans (hc 5 _ rfl)
      simp only [Nat.add_zero] at c0
      obtain ⟨d0, d1, d2, d3, d4, d5, e0, e1, e2, e3, e4, e5⟩ := six (k := k) hF.1 hlt
      have g0 := (bD.cell _).trans e0
      have g1 := (bD.cell _).trans e1
      have g2 := (bD.cell _).trans e2
      have g3 := (bD.cell _).trans e3
      have g4 := (bD.cell _).trans e4
      have g5 := (bD.cell _).trans e5
      have gf := bD.frozen
      have gl := bD.lt
      have bl : b < wr.heap.size := by omega
      have BD := hide bD
      have HF := hide hF
      have HBD := hide hBD
      have HXK := hide hxk
      clear hwc hc e0 e1 e2 e3 e4 e5 bD hF hBD ha hxk
      go_wp2
      go_roundw
      case rel => exact ⟨k + 1, by omega, by go_num, l1_next hlt BD.out HF.out HBD.out HXK.out _⟩
      case measure => simp [intOf]; omega
    · have hkn : n = k := by omega
      subst hkn
      obtain ⟨D, bD, hF, hBD⟩ := hL
      have BD := hide bD
      have HF := hide hF
      have HBD := hide hBD
      clear bD hF hBD
      go_wp2
      have B0' : Blk wr w.heap.size #[.int .i64 s0, .int .i64 s1, .int .i64 s2, .int .i64 s3, .int .i64 s4, .int .i64 s5] 23 := Blk.below HBD.out B0.out (by omega)
      have B1' : Blk wr (w.heap.size + 1) #[.int .u64 l0, .int .u64 l1, .int .u64 l2, .int .u64 l3, .int .u64 l4, .int .u64 l5] 25 := Blk.below HBD.out B1.out (by omega)
      have cS : ∀ i v, (#[.int .i64 s0, .int .i64 s1, .int .i64 s2, .int .i64 s3, .int .i64 s4, .int .i64 s5] : Array Value)[i]? = some v → ∀ ob, (wr.alloc ob).cell? ⟨w.heap.size, i, none⟩ = some v := fun i v h ob => ((B0'.alloc ob).cell i).trans h
      have cL : ∀ i v, (#[.int .u64 l0, .int .u64 l1, .int .u64 l2, .int .u64 l3, .int .u64 l4, .int .u64 l5] : Array Value)[i]? = some v → ∀ ob, (wr.alloc ob).cell? ⟨w.heap.size + 1, i, none⟩ = some v := fun i v h ob => ((B1'.alloc ob).cell i).trans h
      have CS := hide cS
      have CL := hide cL
      obtain ⟨wo, ewo⟩ : ∃ wo : World, wo = wr := ⟨_, rfl⟩
      subst ewo
      clear cS cL
      go_loopw [18, 19, 20, 21, 22] (fun i _ _ _ _ ww => ∃ k : Nat, k ≤ 6 ∧ i = .int .i64 k ∧ ww = wo.alloc (.cells (repC (.slice (some ⟨w.heap.size + 1 + 1, 0, none⟩) n n) k n s0 s1 s2 s3 s4 s5 l0 l1 l2 l3 l4 l5) 44)) (fun i _ _ _ _ _ => 6 - (intOf i).toNat)
      case atStart => exact ⟨0, by omega, rfl, by rw [rep_0]⟩
      case round =>
        obtain ⟨k, hk6, rfl, rfl⟩ := hrel
        by_cases hlt6 : k < 6
        · have cS := CS.out
          have cL := CL.out
          match k, hlt6 with
          | 0, _ =>
            rw [rep_0]
            have hS := cS 0 _ rfl
            have hLa := cL 0 _ rfl
            have hkd := kind_any 0 (by omega)
            by_cases hn0 : n = 0
            · have hnz : ((n : Int) == 0) = true := by rw [beq_iff_eq]; omega
              have HN0 := hide hn0
              clear hn0
              by_cases h3 : 3 ≤ s0
              · have h3d : decide (3 ≤ s0) = true := decide_eq_true h3
                go_wp2_with (go_at_call 4; refine (hkd _).mono ?_; rintro e w' ⟨rfl, rfl⟩)
                go_roundw
                case rel => exact ⟨1, by omega, rfl, by rw [rep_1, svf_big (s := s0) HN0.out h3, lvf_zero HN0.out l0]⟩
                case measure => simp [intOf]
              · have h3d : decide (3 ≤ s0) = false := decide_eq_false h3
                go_wp2_with (go_at_call 4; refine (hkd _).mono ?_; rintro e w' ⟨rfl, rfl⟩)
                go_roundw
                case rel => exact ⟨1, by omega, rfl, by rw [rep_1, svf_small (s := s0) (by omega), lvf_zero HN0.out l0]⟩
                case measure => simp [intOf]
            · have hnz : ((n : Int) == 0) = false := by rw [beq_eq_false_iff_ne]; omega
              have hnp : 1 ≤ n := by omega
              have el := lvf_tmod hnp hn l0
              go_wp2_with (go_at_call 4; refine (hkd _).mono ?_; rintro e w' ⟨rfl, rfl⟩)
              go_roundw
              case rel => exact ⟨1, by omega, rfl, by rw [rep_1, svf_pos hnp s0]⟩
              case measure => simp [intOf]
          | 1, _ =>
            rw [rep_1]
            have hS := cS 1 _ rfl
            have hLa := cL 1 _ rfl
            have hkd := kind_any 1 (by omega)
            by_cases hn0 : n = 0
            · have hnz : ((n : Int) == 0) = true := by rw [beq_iff_eq]; omega
              have HN0 := hide hn0
              clear hn0
              by_cases h3 : 3 ≤ s1
              · have h3d : decide (3 ≤ s1) = true := decide_eq_true h3
                go_wp2_with (go_at_call 4; refine (hkd _).mono ?_; rintro e w' ⟨rfl, rfl⟩)
                go_roundw
                case rel => exact ⟨2, by omega, rfl, by rw [rep_2, svf_big (s := s1) HN0.out h3, lvf_zero HN0.out l1]⟩
                case measure => simp [intOf]
              · have h3d : decide (3 ≤ s1) = false := decide_eq_false h3
                go_wp2_with (go_at_call 4; refine (hkd _).mono ?_; rintro e w' ⟨rfl, rfl⟩)
                go_roundw
                case rel => exact ⟨2, by omega, rfl, by rw [rep_2, svf_small (s := s1) (by omega), lvf_zero HN0.out l1]⟩
                case measure => simp [intOf]
            · have hnz : ((n : Int) == 0) = false := by rw [beq_eq_false_iff_ne]; omega
              have hnp : 1 ≤ n := by omega
              have el := lvf_tmod hnp hn l1
              go_wp2_with (go_at_call 4; refine (hkd _).mono ?_; rintro e w' ⟨rfl, rfl⟩)
              go_roundw
              case rel => exact ⟨2, by omega, rfl, by rw [rep_2, svf_pos hnp s1]⟩
              case measure => simp [intOf]
          | 2, _ =>
            rw [rep_2]
            have hS := cS 2 _ rfl
            have hLa := cL 2 _ rfl
            have hkd := kind_any 2 (by omega)
            by_cases hn0 : n = 0
            · have hnz : ((n : Int) == 0) = true := by rw [beq_iff_eq]; omega
              have HN0 := hide hn0
              clear hn0
              by_cases h3 : 3 ≤ s2
              · have h3d : decide (3 ≤ s2) = true := decide_eq_true h3
                go_wp2_with (go_at_call 4; refine (hkd _).mono ?_; rintro e w' ⟨rfl, rfl⟩)
                go_roundw
                case rel => exact ⟨3, by omega, rfl, by rw [rep_3, svf_big (s := s2) HN0.out h3, lvf_zero HN0.out l2]⟩
                case measure => simp [intOf]
              · have h3d : decide (3 ≤ s2) = false := decide_eq_false h3
                go_wp2_with (go_at_call 4; refine (hkd _).mono ?_; rintro e w' ⟨rfl, rfl⟩)
                go_roundw
                case rel => exact ⟨3, by omega, rfl, by rw [rep_3, svf_small (s := s2) (by omega), lvf_zero HN0.out l2]⟩
                case measure => simp [intOf]
            · have hnz : ((n : Int) == 0) = false := by rw [beq_eq_false_iff_ne]; omega
              have hnp : 1 ≤ n := by omega
              have el := lvf_tmod hnp hn l2
              go_wp2_with (go_at_call 4; refine (hkd _).mono ?_; rintro e w' ⟨rfl, rfl⟩)
              go_roundw
              case rel => exact ⟨3, by omega, rfl, by rw [rep_3, svf_pos hnp s2]⟩
              case measure => simp [intOf]
          | 3, _ =>
            rw [rep_3]
            have hS := cS 3 _ rfl
            have hLa := cL 3 _ rfl
            have hkd := kind_any 3 (by omega)
            by_cases hn0 : n = 0
            · have hnz : ((n : Int) == 0) = true := by rw [beq_iff_eq]; omega
              have HN0 := hide hn0
              clear hn0
              by_cases h3 : 3 ≤ s3
              · have h3d : decide (3 ≤ s3) = true := decide_eq_true h3
                go_wp2_with (go_at_call 4; refine (hkd _).mono ?_; rintro e w' ⟨rfl, rfl⟩)
                go_roundw
                case rel => exact ⟨4, by omega, rfl, by rw [rep_4, svf_big (s := s3) HN0.out h3, lvf_zero HN0.out l3]⟩
                case measure => simp [intOf]
              · have h3d : decide (3 ≤ s3) = false := decide_eq_false h3
                go_wp2_with (go_at_call 4; refine (hkd _).mono ?_; rintro e w' ⟨rfl, rfl⟩)
                go_roundw
                case rel => exact ⟨4, by omega, rfl, by rw [rep_4, svf_small (s := s3) (by omega), lvf_zero HN0.out l3]⟩
                case measure => simp [intOf]
            · have hnz : ((n : Int) == 0) = false := by rw [beq_eq_false_iff_ne]; omega
              have hnp : 1 ≤ n := by omega
              have el := lvf_tmod hnp hn l3
              go_wp2_with (go_at_call 4; refine (hkd _).mono ?_; rintro e w' ⟨rfl, rfl⟩)
              go_roundw
              case rel => exact ⟨4, by omega, rfl, by rw [rep_4, svf_pos hnp s3]⟩
              case measure => simp [intOf]
          | 4, _ =>
            rw [rep_4]
            have hS := cS 4 _ rfl
            have hLa := cL 4 _ rfl
            have hkd := kind_any 4 (by omega)
            by_cases hn0 : n = 0
            · have hnz : ((n : Int) == 0) = true := by rw [beq_iff_eq]; omega
              have HN0 := hide hn0
              clear hn0
              by_cases h3 : 3 ≤ s4
              · have h3d : decide (3 ≤ s4) = true := decide_eq_true h3
                go_wp2_with (go_at_call 4; refine (hkd _).mono ?_; rintro e w' ⟨rfl, rfl⟩)
                go_roundw
                case rel => exact ⟨5, by omega, rfl, by rw [rep_5, svf_big (s := s4) HN0.out h3, lvf_zero HN0.out l4]⟩
                case measure => simp [intOf]
              · have h3d : decide (3 ≤ s4) = false := decide_eq_false h3
                go_wp2_with (go_at_call 4; refine (hkd _).mono ?_; rintro e w' ⟨rfl, rfl⟩)
                go_roundw
                case rel => exact ⟨5, by omega, rfl, by rw [rep_5, svf_small (s := s4) (by omega), lvf_zero HN0.out l4]⟩
                case measure => simp [intOf]
            · have hnz : ((n : Int) == 0) = false := by rw [beq_eq_false_iff_ne]; omega
              have hnp : 1 ≤ n := by omega
              have el := lvf_tmod hnp hn l4
              go_wp2_with (go_at_call 4; refine (hkd _).mono ?_; rintro e w' ⟨rfl, rfl⟩)
              go_roundw
              case rel => exact ⟨5, by omega, rfl, by rw [rep_5, svf_pos hnp s4]⟩
              case measure => simp [intOf]
          | 5, _ =>
            rw [rep_5]
            have hS := cS 5 _ rfl
            have hLa := cL 5 _ rfl
            have hkd := kind_any 5 (by omega)
            by_cases hn0 : n = 0
            · have hnz : ((n : Int) == 0) = true := by rw [beq_iff_eq]; omega
              have HN0 := hide hn0
              clear hn0
              by_cases h3 : 3 ≤ s5
              · have h3d : decide (3 ≤ s5) = true := decide_eq_true h3
                go_wp2_with (go_at_call 4; refine (hkd _).mono ?_; rintro e w' ⟨rfl, rfl⟩)
                go_roundw
                case rel => exact ⟨6, by omega, rfl, by rw [rep_6, svf_big (s := s5) HN0.out h3, lvf_zero HN0.out l5]⟩
                case measure => simp [intOf]
              · have h3d : decide (3 ≤ s5) = false := decide_eq_false h3
                go_wp2_with (go_at_call 4; refine (hkd _).mono ?_; rintro e w' ⟨rfl, rfl⟩)
                go_roundw
                case rel => exact ⟨6, by omega, rfl, by rw [rep_6, svf_small (s := s5) (by omega), lvf_zero HN0.out l5]⟩
                case measure => simp [intOf]
            · have hnz : ((n : Int) == 0) = false := by rw [beq_eq_false_iff_ne]; omega
              have hnp : 1 ≤ n := by omega
              have el := lvf_tmod hnp hn l5
              go_wp2_with (go_at_call 4; refine (hkd _).mono ?_; rintro e w' ⟨rfl, rfl⟩)
              go_roundw
              case rel => exact ⟨6, by omega, rfl, by rw [rep_6, svf_pos hnp s5]⟩
              case measure => simp [intOf]
        · have hk6' : k = 6 := by omega
          subst hk6'
          rw [rep_6]
          clear hL0 hk hlt hk6 hlt6
          go_wp2_with fail
          have bR2 : Blk ((wo.alloc (.cells (repQ (.slice (some ⟨w.heap.size + 1 + 1, 0, none⟩) n n) (qf (svf n s0) (svf n s1) (svf n s2) (svf n s3) (svf n s4) (svf n s5) (lvf n l0) (lvf n l1) (lvf n l2) (lvf n l3) (lvf n l4) (lvf n l5))) 44)).alloc (.cells (befQ (qf (svf n s0) (svf n s1) (svf n s2) (svf n s3) (svf n s4) (svf n s5) (lvf n l0) (lvf n l1) (lvf n l2) (lvf n l3) (lvf n l4) (lvf n l5))) 42)) wo.heap.size (repQ (.slice (some ⟨w.heap.size + 1 + 1, 0, none⟩) n n) (qf (svf n s0) (svf n s1) (svf n s2) (svf n s3) (svf n s4) (svf n s5) (lvf n l0) (lvf n l1) (lvf n l2) (lvf n l3) (lvf n l4) (lvf n l5))) 44 := (Blk.new _ _ _).alloc _
          have bB2 : Blk ((wo.alloc (.cells (repQ (.slice (some ⟨w.heap.size + 1 + 1, 0, none⟩) n n) (qf (svf n s0) (svf n s1) (svf n s2) (svf n s3) (svf n s4) (svf n s5) (lvf n l0) (lvf n l1) (lvf n l2) (lvf n l3) (lvf n l4) (lvf n l5))) 44)).alloc (.cells (befQ (qf (svf n s0) (svf n s1) (svf n s2) (svf n s3) (svf n s4) (svf n s5) (lvf n l0) (lvf n l1) (lvf n l2) (lvf n l3) (lvf n l4) (lvf n l5))) 42)) (wo.heap.size + 1) (befQ (qf (svf n s0) (svf n s1) (svf n s2) (svf n s3) (svf n s4) (svf n s5) (lvf n l0) (lvf n l1) (lvf n l2) (lvf n l3) (lvf n l4) (lvf n l5))) 42 := by
            have := Blk.new (wo.alloc (.cells (repQ (.slice (some ⟨w.heap.size + 1 + 1, 0, none⟩) n n) (qf (svf n s0) (svf n s1) (svf n s2) (svf n s3) (svf n s4) (svf n s5) (lvf n l0) (lvf n l1) (lvf n l2) (lvf n l3) (lvf n l4) (lvf n l5))) 44)) (befQ (qf (svf n s0) (svf n s1) (svf n s2) (svf n s3) (svf n s4) (svf n s5) (lvf n l0) (lvf n l1) (lvf n l2) (lvf n l3) (lvf n l4) (lvf n l5))) 42
            simpa using this
          have bG2 : Blk ((wo.alloc (.cells (repQ (.slice (some ⟨w.heap.size + 1 + 1, 0, none⟩) n n) (qf (svf n s0) (svf n s1) (svf n s2) (svf n s3) (svf n s4) (svf n s5) (lvf n l0) (lvf n l1) (lvf n l2) (lvf n l3) (lvf n l4) (lvf n l5))) 44)).alloc (.cells (befQ (qf (svf n s0) (svf n s1) (svf n s2) (svf n s3) (svf n s4) (svf n s5) (lvf n l0) (lvf n l1) (lvf n l2) (lvf n l3) (lvf n l4) (lvf n l5))) 42)) (w.heap.size + 1 + 1) D 31 := (BD.out.alloc _).alloc _
          have hB2 : Below w.heap.size w ((wo.alloc (.cells (repQ (.slice (some ⟨w.heap.size + 1 + 1, 0, none⟩) n n) (qf (svf n s0) (svf n s1) (svf n s2) (svf n s3) (svf n s4) (svf n s5) (lvf n l0) (lvf n l1) (lvf n l2) (lvf n l3) (lvf n l4) (lvf n l5))) 44)).alloc (.cells (befQ (qf (svf n s0) (svf n s1) (svf n s2) (svf n s3) (svf n s4) (svf n s5) (lvf n l0) (lvf n l1) (lvf n l2) (lvf n l3) (lvf n l4) (lvf n l5))) 42)) := by
            have hlt := BD.out.lt
            exact (((HB.out).trans (HBD.out.mono (by omega))).alloc (by omega) _).alloc (by simp; omega) _
          have hsz2 : ((wo.alloc (.cells (repQ (.slice (some ⟨w.heap.size + 1 + 1, 0, none⟩) n n) (qf (svf n s0) (svf n s1) (svf n s2) (svf n s3) (svf n s4) (svf n s5) (lvf n l0) (lvf n l1) (lvf n l2) (lvf n l3) (lvf n l4) (lvf n l5))) 44)).alloc (.cells (befQ (qf (svf n s0) (svf n s1) (svf n s2) (svf n s3) (svf n s4) (svf n s5) (lvf n l0) (lvf n l1) (lvf n l2) (lvf n l3) (lvf n l4) (lvf n l5))) 42)).heap.size = wo.heap.size + 2 := by simp
          generalize hW2 : ((wo.alloc (.cells (repQ (.slice (some ⟨w.heap.size + 1 + 1, 0, none⟩) n n) (qf (svf n s0) (svf n s1) (svf n s2) (svf n s3) (svf n s4) (svf n s5) (lvf n l0) (lvf n l1) (lvf n l2) (lvf n l3) (lvf n l4) (lvf n l5))) 44)).alloc (.cells (befQ (qf (svf n s0) (svf n s1) (svf n s2) (svf n s3) (svf n s4) (svf n s5) (lvf n l0) (lvf n l1) (lvf n l2) (lvf n l3) (lvf n l4) (lvf n l5))) 42)) = W2 at bR2 bB2 bG2 hB2 hsz2
          have hW2' : ((wo.alloc (.cells #[.slice (some ⟨w.heap.size + 1 + 1, 0, none⟩) n n, .slice none 0 0, .slice none 0 0, .slice none 0 0, .map none, .string ⟨#[]⟩, .pointer none, .int .i64 0, .int .i64 0, .int .i64 0, .int .i64 0, .int .i64 0, .int .i64 0, .int .i64 0, .int .i64 0, .int .i64 0, .int .i64 0, .int .i64 (svf n s0), .int .i64 (lvf n l0), .int .i64 (svf n s1), .int .i64 (lvf n l1), .int .i64 (svf n s2), .int .i64 (lvf n l2), .int .i64 (svf n s3), .int .i64 (lvf n l3), .int .i64 (svf n s4), .int .i64 (lvf n l4), .int .i64 (svf n s5), .int .i64 (lvf n l5)] 44)).alloc (.cells #[.int .i64 0, .int .i64 0, .int .i64 (svf n s0), .int .i64 (lvf n l0), .int .i64 (svf n s1), .int .i64 (lvf n l1), .int .i64 (svf n s2), .int .i64 (lvf n l2), .int .i64 (svf n s3), .int .i64 (lvf n l3), .int .i64 (svf n s4), .int .i64 (lvf n l4), .int .i64 (svf n s5), .int .i64 (lvf n l5)] 42)) = W2 := hW2
          rw [hW2']
          have hGR := BD.out.lt
          clear hW2 hW2' CS CL B0' B1' B0 B1 HBD BD HB HFS
          have hTQ := tallies n hn s0 s1 s2 s3 s4 s5 l0 l1 l2 l3 l4 l5 hs0 hs1 hs2 hs3 hs4 hs5
          generalize qf (svf n s0) (svf n s1) (svf n s2) (svf n s3) (svf n s4) (svf n s5) (lvf n l0) (lvf n l1) (lvf n l2) (lvf n l3) (lvf n l4) (lvf n l5) = q at bR2 bB2 hTQ
          obtain ⟨i, hi6, hks⟩ : ∃ i : Nat, i < 6 ∧ ks % 6 = (i : Int) := ⟨(ks % 6).toNat, by omega, by omega⟩
          have hT := hTQ i hi6
          clear hTQ
          have hFl := HF.out
          refine (clone_some (w.heap.size + 1 + 1) 0 n n D.toList W2 (by rw [Array.length_toList]; exact hFl.1) hn (fun j u hu => by rw [bG2.cell, Nat.zero_add]; simpa using hu) hFl.2.1).mono ?_
          rintro e w3 ⟨v1, rfl, hown1, hv1, hB3⟩
          obtain ⟨g1, c1, cur1, rfl, hg1, bg1, hc1, hc1', hsz1, hcur1⟩ := own_open hown1 hv1
          have bR3 := Blk.below hB3 bR2 bR2.lt
          have bB3 := Blk.below hB3 bB2 bB2.lt
          have bG3 := Blk.below hB3 bG2 bG2.lt
          have hB03 : Below w.heap.size w w3 := hB2.trans (hB3.mono (by have := bG2.lt; omega))
          have htx3 : ∀ k, k < 7 → w3.cell? ⟨0, k, none⟩ = some (.string (txt k)) := fun k hk => (hB03.cell (p := ⟨0, k, none⟩) (World.block_lt_of_cell? _ _ (htx k hk))).trans (htx k hk)
          have hg0 : 0 < w.heap.size := World.block_lt_of_cell? _ _ (htx 0 (by omega))
          have hR3 := bR3.lt
          have hB3s := bB3.lt
          clear hown1 hv1 hB3 hB2 bR2 bB2 bG2 htx
          obtain ⟨R, hR⟩ : ∃ R, wo.heap.size = R := ⟨_, rfl⟩
          rw [hR] at bR3 bB3 hR3 hB3s hsz2 hGR
          have HKD := hide (kind_any i hi6)
          have cb0 : w3.cell? ⟨R + 1, (i + 1) * 2, none⟩ = some (.int .i64 (q ((i + 1) * 2))) := (bB3.cell _).trans (befQ_at q _ (by omega))
          have cb1 : w3.cell? ⟨R + 1, (i + 1) * 2 + 1, none⟩ = some (.int .i64 (q ((i + 1) * 2 + 1))) := (bB3.cell _).trans (befQ_at q _ (by omega))
          obtain ⟨t, Ht⟩ : ∃ t, q ((i + 1) * 2) = t := ⟨_, rfl⟩
          obtain ⟨u, Hu⟩ : ∃ u, q ((i + 1) * 2 + 1) = u := ⟨_, rfl⟩
          rw [Ht, Hu] at hT
          rw [Ht] at cb0
          rw [Hu] at cb1
          have HT := hide hT
          have HHt := hide Ht
          have HHu := hide Hu
          have HBR3 := hide bR3
          have HBB3 := hide bB3
          have HBG3 := hide bG3
          have HBg1 := hide bg1
          have HCUR1 := hide hcur1
          have HB03 := hide hB03
          have HTX3 := hide htx3
          have HSZ1 := hide hsz1
          have HSZ2 := hide hsz2
          have HFL := hide hFl
          have HFx := hide hx
          clear hT Ht Hu bR3 bB3 bG3 bg1 hcur1 hB03 htx3 hsz1 hsz2 hFl HF hx
          have hi7 : i + 1 < 7 := by omega
          go_wp2_with (go_at_call 4; refine (HKD.out _).mono ?_; rintro e w' ⟨rfl, hw'⟩; obtain rfl : w3 = w' := hw'.symm)
          rw [show ((i : Int) + 1) = ((i + 1 : Nat) : Int) from by omega]
          have bR4 : Blk (w3.alloc (.cells #[.int .i64 t, .int .i64 u] 41)) R (repQ (.slice (some ⟨w.heap.size + 1 + 1, 0, none⟩) n n) q) 44 := HBR3.out.alloc _
          have bB4 : Blk (w3.alloc (.cells #[.int .i64 t, .int .i64 u] 41)) (R + 1) (befQ q) 42 := HBB3.out.alloc _
          have bG4 : Blk (w3.alloc (.cells #[.int .i64 t, .int .i64 u] 41)) (w.heap.size + 1 + 1) D 31 := HBG3.out.alloc _
          have bg4 : Blk (w3.alloc (.cells #[.int .i64 t, .int .i64 u] 41)) g1 cur1 31 := HBg1.out.alloc _
          have bT4 : Blk (w3.alloc (.cells #[.int .i64 t, .int .i64 u] 41)) w3.heap.size #[.int .i64 t, .int .i64 u] 41 := Blk.new _ _ _
          have hB4 : Below w.heap.size w (w3.alloc (.cells #[.int .i64 t, .int .i64 u] 41)) := HB03.out.alloc HB03.out.size _
          have hgR : R + 1 < g1 := by have := HSZ2.out; omega
          have hg3 := HBg1.out.lt
          generalize hW4 : (w3.alloc (.cells #[.int .i64 t, .int .i64 u] 41)) = W4 at bR4 bB4 bG4 bg4 bT4 hB4 ⊢
          by_cases h3 : 3 ≤ t
          · obtain ⟨hn0, l, hl, hu⟩ := HT.out.2 h3
            subst hu
            have hmo := filled_mo HFL.out hl
            obtain ⟨m, Hm⟩ : ∃ m, xs[l]!.2.2.2.2.1 = m := ⟨_, rfl⟩
            rw [Hm] at hmo
            have HM := hide Hm
            clear Hm
            refine (oddity_yes R (w.heap.size + 1 + 1) n n l (i + 1) _ D line t m (xs[l]!.2.2.2.2.2) name W4 h3 hl hn HT.out.1 hi7 bR4 bG4 (by rw [repQ_at _ _ _ (by omega), HHt.out]) (by rw [show 15 + (i + 1) * 2 + 1 = 15 + ((i + 1) * 2 + 1) from by omega, repQ_at _ _ _ (by omega), HHu.out]) rfl hmo.1 hmo.2).mono ?_
            rintro e w5 ⟨rfl, bG5, hgr5⟩
            have bR5 := Blk.grown hgr5 bR4 (by intro e; injection e; omega)
            have bB5 := Blk.grown hgr5 bB4 (by intro e; injection e; omega)
            have bg5 := Blk.grown hgr5 bg4 (by intro e; injection e; omega)
            have bT5 := Blk.grown hgr5 bT4 (by intro e; injection e; omega)
            have hB5 : Below w.heap.size w w5 := hB4.grown hgr5 (by have := bT4.lt; omega) (by intro k hk; injection hk; omega)
            have ct0 := bT5.cell 0
            have ct1 := bT5.cell 1
            have hT5 := bT5.lt
            have h3d : decide (3 ≤ t) = true := decide_eq_true h3
            have HB5 := hide hB5
            have HBR5 := hide bR5
            have HBB5 := hide bB5
            have HBg5 := hide bg5
            have HBG5 := hide bG5
            have HBT5 := hide bT5
            clear bR4 bB4 bG4 bg4 bT4 hB4 bR5 bB5 bg5 bG5 bT5 hB5 hgr5 hW4 cb0 cb1 hmo
            go_wp2_with fail
            refine (clone_some g1 0 n c1 D.toList w5 (by rw [Array.length_toList]; exact HFL.out.1) hn (fun j u hu => by
              have hj : j < n * 6 := by
                have := (List.getElem?_eq_some_iff.1 hu).1
                rw [Array.length_toList, HFL.out.1] at this; exact this
              rw [HBg5.out.cell, Nat.zero_add, HCUR1.out j hj]; exact hu) HFL.out.2.1).mono ?_
            rintro e w6 ⟨v2, rfl, hown2, hv2, hB6⟩
            obtain ⟨g2, c2, cur2, rfl, hg2, bg2, hc2, hc2', hsz2, hcur2⟩ := own_open hown2 hv2
            have bR6 := Blk.below hB6 HBR5.out HBR5.out.lt
            have bB6 := Blk.below hB6 HBB5.out HBB5.out.lt
            have bG6 := Blk.below hB6 HBG5.out HBG5.out.lt
            have bT6 := Blk.below hB6 HBT5.out HBT5.out.lt
            have hB06 : Below w.heap.size w w6 := HB5.out.trans (hB6.mono (by have := HB5.out.size; omega))
            have hmo2 : cur2[l * 6 + 4]? = some (.int .i64 m) ∧ cur2[l * 6 + 5]? = some (.int .i64 (xs[l]!.2.2.2.2.2)) := by
              have hm := filled_mo HFL.out hl
              rw [HM.out] at hm
              refine ⟨?_, ?_⟩
              · rw [hcur2 _ (by omega), Array.getElem?_toList]; exact hm.1
              · rw [hcur2 _ (by omega), Array.getElem?_toList]; exact hm.2
            have cg4 := (bg2.cell _).trans hmo2.1
            have cg5 := (bg2.cell _).trans hmo2.2
            have fg2 := bg2.frozen
            have ct0 := bT6.cell 0
            have ct1 := bT6.cell 1
            have hli : (l : Int) < (n : Int) := by omega
            have HBR6 := hide bR6
            have HBB6 := hide bB6
            have HBG6 := hide bG6
            have HBg2 := hide bg2
            have HBT6 := hide bT6
            have HB06 := hide hB06
            have HCUR2 := hide hcur2
            clear hown2 hv2 hB6 bR6 bB6 bG6 bg2 bT6 hB06 hcur2 hmo2
            go_wp2_with fail
            have bR7 := (HBR6.out.other ⟨g2, l * 6 + 4, none⟩ (.int .i64 (wrap64 (m + 1))) (by show R ≠ g2; have := HBR5.out.lt; omega)).other ⟨g2, l * 6 + 5, none⟩ (.int .i64 line) (by show R ≠ g2; have := HBR5.out.lt; omega)
            have bB7 := (HBB6.out.other ⟨g2, l * 6 + 4, none⟩ (.int .i64 (wrap64 (m + 1))) (by show R + 1 ≠ g2; have := HBB5.out.lt; omega)).other ⟨g2, l * 6 + 5, none⟩ (.int .i64 line) (by show R + 1 ≠ g2; have := HBB5.out.lt; omega)
            have bG7 := (HBG6.out.other ⟨g2, l * 6 + 4, none⟩ (.int .i64 (wrap64 (m + 1))) (by show w.heap.size + 1 + 1 ≠ g2; have := HBG5.out.lt; omega)).other ⟨g2, l * 6 + 5, none⟩ (.int .i64 line) (by show w.heap.size + 1 + 1 ≠ g2; have := HBG5.out.lt; omega)
            have bg7 := (HBg2.out.same (l * 6 + 4) (.int .i64 (wrap64 (m + 1)))).same (l * 6 + 5) (.int .i64 line)
            have hB7 : Below w.heap.size w ((w6.setCell ⟨g2, l * 6 + 4, none⟩ (.int .i64 (wrap64 (m + 1)))).setCell ⟨g2, l * 6 + 5, none⟩ (.int .i64 line)) := (HB06.out.setCell (by show w.heap.size ≤ g2; have := HB5.out.size; omega) _).setCell (by show w.heap.size ≤ g2; have := HB5.out.size; omega) _
            generalize hW7 : ((w6.setCell ⟨g2, l * 6 + 4, none⟩ (.int .i64 (wrap64 (m + 1)))).setCell ⟨g2, l * 6 + 5, none⟩ (.int .i64 line)) = W7 at bR7 bB7 bG7 bg7 hB7 ⊢
            have HEQ : Hid (∀ q, Calls Ybad.prog 7 #[.slice (some ⟨w.heap.size + 1 + 1, 0, none⟩) n n, .slice (some ⟨g2, 0, none⟩) n c2] (W7.drewN q) fun e w' => e = .returned (.bool true) ∧ ∃ m, w' = (W7.drewN q).drewN m) := by
              intro q
              refine equal_same (w.heap.size + 1 + 1) 0 n n g2 0 c2 (bumpX xs l line) (W7.drewN q) (bumpX_len HFx.out l line) (by omega) ?_ ?_
              · intro j hj p v hv
                rw [(bG7.drewN q).cell]
                have h := bump_cells (E := D) HFx.out HFL.out hl (fun _ _ => rfl) j hj p v hv
                rw [HM.out] at h; exact h
              · intro j hj p v hv
                rw [(bg7.drewN q).cell]
                have h := bump_cells (E := cur2) HFx.out HFL.out hl (fun p hp => by rw [HCUR2.out p hp, Array.getElem?_toList]) j hj p v hv
                rw [HM.out] at h; exact h
            have cr0 : W7.cell? ⟨R, 15, none⟩ = some (.int .i64 (q 0)) := bR7.cell 15
            have cr1 : W7.cell? ⟨R, 16, none⟩ = some (.int .i64 (q 1)) := bR7.cell 16
            have cr2 : W7.cell? ⟨R, 17, none⟩ = some (.int .i64 (q 2)) := bR7.cell 17
            have cr3 : W7.cell? ⟨R, 18, none⟩ = some (.int .i64 (q 3)) := bR7.cell 18
            have cr4 : W7.cell? ⟨R, 19, none⟩ = some (.int .i64 (q 4)) := bR7.cell 19
            have cr5 : W7.cell? ⟨R, 20, none⟩ = some (.int .i64 (q 5)) := bR7.cell 20
            have cr6 : W7.cell? ⟨R, 21, none⟩ = some (.int .i64 (q 6)) := bR7.cell 21
            have cr7 : W7.cell? ⟨R, 22, none⟩ = some (.int .i64 (q 7)) := bR7.cell 22
            have cr8 : W7.cell? ⟨R, 23, none⟩ = some (.int .i64 (q 8)) := bR7.cell 23
            have cr9 : W7.cell? ⟨R, 24, none⟩ = some (.int .i64 (q 9)) := bR7.cell 24
            have cr10 : W7.cell? ⟨R, 25, none⟩ = some (.int .i64 (q 10)) := bR7.cell 25
            have cr11 : W7.cell? ⟨R, 26, none⟩ = some (.int .i64 (q 11)) := bR7.cell 26
            have cr12 : W7.cell? ⟨R, 27, none⟩ = some (.int .i64 (q 12)) := bR7.cell 27
            have cr13 : W7.cell? ⟨R, 28, none⟩ = some (.int .i64 (q 13)) := bR7.cell 28
            have cq0 : W7.cell? ⟨R + 1, 0, none⟩ = some (.int .i64 (q 0)) := bB7.cell 0
            have cq1 : W7.cell? ⟨R + 1, 1, none⟩ = some (.int .i64 (q 1)) := bB7.cell 1
            have cq2 : W7.cell? ⟨R + 1, 2, none⟩ = some (.int .i64 (q 2)) := bB7.cell 2
            have cq3 : W7.cell? ⟨R + 1, 3, none⟩ = some (.int .i64 (q 3)) := bB7.cell 3
            have cq4 : W7.cell? ⟨R + 1, 4, none⟩ = some (.int .i64 (q 4)) := bB7.cell 4
            have cq5 : W7.cell? ⟨R + 1, 5, none⟩ = some (.int .i64 (q 5)) := bB7.cell 5
            have cq6 : W7.cell? ⟨R + 1, 6, none⟩ = some (.int .i64 (q 6)) := bB7.cell 6
            have cq7 : W7.cell? ⟨R + 1, 7, none⟩ = some (.int .i64 (q 7)) := bB7.cell 7
            have cq8 : W7.cell? ⟨R + 1, 8, none⟩ = some (.int .i64 (q 8)) := bB7.cell 8
            have cq9 : W7.cell? ⟨R + 1, 9, none⟩ = some (.int .i64 (q 9)) := bB7.cell 9
            have cq10 : W7.cell? ⟨R + 1, 10, none⟩ = some (.int .i64 (q 10)) := bB7.cell 10
            have cq11 : W7.cell? ⟨R + 1, 11, none⟩ = some (.int .i64 (q 11)) := bB7.cell 11
            have cq12 : W7.cell? ⟨R + 1, 12, none⟩ = some (.int .i64 (q 12)) := bB7.cell 12
            have cq13 : W7.cell? ⟨R + 1, 13, none⟩ = some (.int .i64 (q 13)) := bB7.cell 13
            have cz0 : W7.cell? ⟨R, 0, none⟩ = some (.slice (some ⟨w.heap.size + 1 + 1, 0, none⟩) n n) := bR7.cell 0
            have cz1 : W7.cell? ⟨R, 1, none⟩ = some (.slice none 0 0) := bR7.cell 1
            have cz2 : W7.cell? ⟨R, 2, none⟩ = some (.slice none 0 0) := bR7.cell 2
            have cz3 : W7.cell? ⟨R, 3, none⟩ = some (.slice none 0 0) := bR7.cell 3
            have cz4 : W7.cell? ⟨R, 4, none⟩ = some (.map none) := bR7.cell 4
            have cz5 : W7.cell? ⟨R, 5, none⟩ = some (.string ⟨#[]⟩) := bR7.cell 5
            have cz6 : W7.cell? ⟨R, 6, none⟩ = some (.pointer none) := bR7.cell 6
            have cz7 : W7.cell? ⟨R, 7, none⟩ = some (.int .i64 0) := bR7.cell 7
            have cz8 : W7.cell? ⟨R, 8, none⟩ = some (.int .i64 0) := bR7.cell 8
            have cz9 : W7.cell? ⟨R, 9, none⟩ = some (.int .i64 0) := bR7.cell 9
            have cz10 : W7.cell? ⟨R, 10, none⟩ = some (.int .i64 0) := bR7.cell 10
            have cz11 : W7.cell? ⟨R, 11, none⟩ = some (.int .i64 0) := bR7.cell 11
            have cz12 : W7.cell? ⟨R, 12, none⟩ = some (.int .i64 0) := bR7.cell 12
            have cz13 : W7.cell? ⟨R, 13, none⟩ = some (.int .i64 0) := bR7.cell 13
            have cz14 : W7.cell? ⟨R, 14, none⟩ = some (.int .i64 0) := bR7.cell 14
            have hneq := fun w => neq42 w q
            have hneq1 := fun w => neq41 w 0 0
            have hq37 := fun w a n c n' c' => Lib.run_eql_slice_nil (P := Ybad.prog) w 37 79 a n c n' c' Ybad.underlying37
            have hq33 := fun w a n c n' c' => Lib.run_eql_slice_nil (P := Ybad.prog) w 33 77 a n c n' c' Ybad.underlying33
            have hq34 := fun w a n c n' c' => Lib.run_eql_slice_nil (P := Ybad.prog) w 34 51 a n c n' c' Ybad.underlying34
            have hq38 := fun w r => run_eql_map_nil (P := Ybad.prog) w 38 9 39 r Ybad.underlying38
            have HB7 := hide hB7
            clear hB7 bR7 bB7 bG7 bg7 hW7 cg4 cg5 fg2 ct0 ct1
            go_quiet ((go_at_call 7; exact Calls.quiet_of (HEQ.out _)))
            go_wp2_with fail
            go_ret
            exact ⟨rfl, below_drewN HB7.out _⟩
          · have ht3 : t < 3 := by omega
            refine (oddity_no R n n (i + 1) (some ⟨w.heap.size + 1 + 1, 0, none⟩) _ D.toList line t u name (txt (i + 1)) W4 hn (by omega) ht3 HT.out.1.1 hi7 bR4 (by rw [repQ_at _ _ _ (by omega), HHt.out]) (by rw [show 15 + (i + 1) * 2 + 1 = 15 + ((i + 1) * 2 + 1) from by omega, repQ_at _ _ _ (by omega), HHu.out]) rfl (fun e => by cases e) (by rw [Array.length_toList]; exact HFL.out.1) (fun b hb j v hv => by
              injection hb with hb
              subst hb
              rw [Addr.add_lit, Nat.zero_add, bG4.cell]
              simpa using hv) (fun b hb => by
              injection hb with hb
              subst hb
              show w.heap.size + 1 + 1 ≠ R
              omega) (by rw [← hW4, World.cell?_alloc_lt _ _ _ (by have := HB03.out.size; show 0 < _; omega)]; exact HTX3.out _ hi7)).mono ?_
            rintro e w5 ⟨rfl, v3, bR5, hown3, hgr5⟩
            obtain ⟨g3, c3, cur3, rfl, hg3', bg3, hc3, hc3', hsz3, hcur3⟩ := own_open hown3 (by
              intro e
              obtain ⟨g, c, h⟩ := Joins.ownsRow_form hown3 (by omega)
              rw [h] at e; cases e)
            rw [rep_up _ _ _ _ hi6] at bR5
            have bB5 := Blk.grown hgr5 bB4 (by intro e; injection e; omega)
            have bg5 := Blk.grown hgr5 bg4 (by intro e; injection e; omega)
            have bT5 := Blk.grown hgr5 bT4 (by intro e; injection e; omega)
            have hB5 : Below w.heap.size w w5 := hB4.grown hgr5 (by have := bT4.lt; omega) (by intro k hk; injection hk; omega)
            have hW4s := bT4.lt
            have ct0 := bT5.cell 0
            have ct1 := bT5.cell 1
            have hT5 := bT5.lt
            have h3d : decide (3 ≤ t) = false := decide_eq_false h3
            have HB5 := hide hB5
            have HBR5 := hide bR5
            have HBB5 := hide bB5
            have HBg5 := hide bg5
            have HBg3 := hide bg3
            have HBT5 := hide bT5
            have HCUR3 := hide hcur3
            clear bR4 bB4 bG4 bg4 bT4 hB4 bR5 bB5 bg5 bg3 bT5 hB5 hgr5 hW4 cb0 cb1 hown3 hcur3
            go_wp2_with fail
            refine (clone_some g1 0 n c1 D.toList w5 (by rw [Array.length_toList]; exact HFL.out.1) hn (fun j u hu => by
              have hj : j < n * 6 := by
                have := (List.getElem?_eq_some_iff.1 hu).1
                rw [Array.length_toList, HFL.out.1] at this; exact this
              rw [HBg5.out.cell, Nat.zero_add, HCUR1.out j hj]; exact hu) HFL.out.2.1).mono ?_
            rintro e w6 ⟨v2, rfl, hown2, hv2, hB6⟩
            have bR6 := Blk.below hB6 HBR5.out HBR5.out.lt
            have bB6 := Blk.below hB6 HBB5.out HBB5.out.lt
            have bg36 := Blk.below hB6 HBg3.out HBg3.out.lt
            have bT6 := Blk.below hB6 HBT5.out HBT5.out.lt
            have hB06 : Below w.heap.size w w6 := HB5.out.trans (hB6.mono (by have := HB5.out.size; omega))
            have HBR6 := hide bR6
            have HBB6 := hide bB6
            have HBg36 := hide bg36
            have HBT6 := hide bT6
            have HB06 := hide hB06
            have HV2 := hide hv2
            have HOWN2 := hide hown2
            have hs56 := hB6.size
            have H1F : Hid (∀ u ∈ fnd line 1 name (txt (i + 1)) 0 0, u.oneCell' = true) := by
              intro u hu
              simp [fnd] at hu
              rcases hu with rfl | rfl | rfl | rfl | rfl <;> rfl
            clear hown2 hv2 hB6 bR6 bB6 bg36 bT6 hB06
            have KA : Hid (∀ (ob : Obj) w7, (w6.alloc ob).grownBy w7 v2.ownBlock → ∀ b c t, b < w5.heap.size → Blk w6 b c t → Blk w7 b c t) := by
              intro ob w7 hg b c t hb hB
              refine Blk.grown hg (hB.alloc ob) (fun e => ?_)
              have := own_block HOWN2.out e.symm
              omega
            have hT5l := HBT5.out.lt
            have hB5l := HBB5.out.lt
            have HQ0 : Hid ((befQ q)[(i + 1) * 2]? = some (.int .i64 (q ((i + 1) * 2)))) := befQ_at q _ (by omega)
            have HQ1 : Hid ((befQ q)[(i + 1) * 2 + 1]? = some (.int .i64 (q ((i + 1) * 2 + 1)))) := befQ_at q _ (by omega)
            have ht4 : t + 1 ≤ 9223372036854775807 := by omega
            have ht5 := HT.out.1.1
            clear ct0 ct1
            go_wp2_with (at_builtin; refine wpList_append_own _ rfl _ _ 26 rfl w5.heap.size 31 i0 _ 6 64 Ybad.underlying26 hi hz0 hz1 hz2 rfl (by decide) v2 n D.toList rfl (HOWN2.out.alloc _) ⟨w6.heap.size, 0, none⟩ 1 1 (fnd line 1 name (txt (i + 1)) 0 0) rfl rfl (new_cells _ _ _) H1F.out (by unfold maxLen; omega) (by omega) (by simp; omega) ?_; intro v4 w7 hown4 hgrow4 hnil4; have HOWN4 := hide hown4; have HGR4 := hide hgrow4; have ct0 : w7.cell? ⟨w3.heap.size, 0, none⟩ = some (.int .i64 t) := (KA.out _ _ hgrow4 _ _ _ hT5l HBT6.out).cell 0; have cw0 := ((KA.out _ _ hgrow4 _ _ _ hB5l HBB6.out).cell _).trans HQ0.out; have cw1 := ((KA.out _ _ hgrow4 _ _ _ hB5l HBB6.out).cell _).trans HQ1.out; have fw := (KA.out _ _ hgrow4 _ _ _ hB5l HBB6.out).frozen; clear hown4 hgrow4 hnil4)
            obtain ⟨g4, c4, cur4, rfl, hg4, bg4, hc4, hc4', hsz4, hcur4⟩ := own_open HOWN4.out (by
              intro e
              obtain ⟨g, c, h⟩ := Joins.ownsRow_form HOWN4.out (by omega)
              rw [h] at e; cases e)
            have hR5l := HBR5.out.lt
            have hg3l := HBg3.out.lt
            have bR8 := ((KA.out _ _ HGR4.out _ _ _ hR5l HBR6.out).other ⟨R + 1, (i + 1) * 2, none⟩ (.int .i64 (t + 1)) (by show R ≠ R + 1; omega)).other ⟨R + 1, (i + 1) * 2 + 1, none⟩ (.int .i64 n) (by show R ≠ R + 1; omega)
            have bg38 := ((KA.out _ _ HGR4.out _ _ _ hg3l HBg36.out).other ⟨R + 1, (i + 1) * 2, none⟩ (.int .i64 (t + 1)) (by show g3 ≠ R + 1; omega)).other ⟨R + 1, (i + 1) * 2 + 1, none⟩ (.int .i64 n) (by show g3 ≠ R + 1; omega)
            have bg48 := (bg4.other ⟨R + 1, (i + 1) * 2, none⟩ (.int .i64 (t + 1)) (by show g4 ≠ R + 1; omega)).other ⟨R + 1, (i + 1) * 2 + 1, none⟩ (.int .i64 n) (by show g4 ≠ R + 1; omega)
            have bB8 := ((KA.out _ _ HGR4.out _ _ _ hB5l HBB6.out).same ((i + 1) * 2) (.int .i64 (t + 1))).same ((i + 1) * 2 + 1) (.int .i64 n)
            rw [bef_up _ _ hi6] at bB8
            have hB7 : Below w.heap.size w w7 := ((HB06.out).alloc HB06.out.size _).grown HGR4.out (by simp; have := HB06.out.size; omega) (fun k hk => by have := own_block HOWN2.out hk; have := HB5.out.size; omega)
            have hB8 : Below w.heap.size w ((w7.setCell ⟨R + 1, (i + 1) * 2, none⟩ (.int .i64 (t + 1))).setCell ⟨R + 1, (i + 1) * 2 + 1, none⟩ (.int .i64 n)) := (hB7.setCell (by show w.heap.size ≤ R + 1; omega) _).setCell (by show w.heap.size ≤ R + 1; omega) _
            generalize hW8 : ((w7.setCell ⟨R + 1, (i + 1) * 2, none⟩ (.int .i64 (t + 1))).setCell ⟨R + 1, (i + 1) * 2 + 1, none⟩ (.int .i64 n)) = W8 at bR8 bg38 bg48 bB8 hB8 ⊢
            generalize qUp q i (t + 1) n = q' at bR8 bB8
            have HEQ : Hid (∀ q, Calls Ybad.prog 7 #[.slice (some ⟨g3, 0, none⟩) (n + 1) c3, .slice (some ⟨g4, 0, none⟩) (n + 1) c4] (W8.drewN q) fun e w' => e = .returned (.bool true) ∧ ∃ m, w' = (W8.drewN q).drewN m) := by
              intro q
              refine equal_same g3 0 (n + 1) c3 g4 0 c4 (xs ++ [(line, 1, name, txt (i + 1), 0, 0)]) (W8.drewN q) (by rw [List.length_append, HFx.out]; rfl) (by omega) ?_ ?_
              · intro j hj p v hv
                rw [(bg38.drewN q).cell]
                exact more_cells HFx.out HFL.out (fun p hp => HCUR3.out p hp) j hj p v hv
              · intro j hj p v hv
                rw [(bg48.drewN q).cell]
                exact more_cells HFx.out HFL.out (fun p hp => hcur4 p hp) j hj p v hv
            have cr0 : W8.cell? ⟨R, 15, none⟩ = some (.int .i64 (q' 0)) := bR8.cell 15
            have cr1 : W8.cell? ⟨R, 16, none⟩ = some (.int .i64 (q' 1)) := bR8.cell 16
            have cr2 : W8.cell? ⟨R, 17, none⟩ = some (.int .i64 (q' 2)) := bR8.cell 17
            have cr3 : W8.cell? ⟨R, 18, none⟩ = some (.int .i64 (q' 3)) := bR8.cell 18
            have cr4 : W8.cell? ⟨R, 19, none⟩ = some (.int .i64 (q' 4)) := bR8.cell 19
            have cr5 : W8.cell? ⟨R, 20, none⟩ = some (.int .i64 (q' 5)) := bR8.cell 20
            have cr6 : W8.cell? ⟨R, 21, none⟩ = some (.int .i64 (q' 6)) := bR8.cell 21
            have cr7 : W8.cell? ⟨R, 22, none⟩ = some (.int .i64 (q' 7)) := bR8.cell 22
            have cr8 : W8.cell? ⟨R, 23, none⟩ = some (.int .i64 (q' 8)) := bR8.cell 23
            have cr9 : W8.cell? ⟨R, 24, none⟩ = some (.int .i64 (q' 9)) := bR8.cell 24
            have cr10 : W8.cell? ⟨R, 25, none⟩ = some (.int .i64 (q' 10)) := bR8.cell 25
            have cr11 : W8.cell? ⟨R, 26, none⟩ = some (.int .i64 (q' 11)) := bR8.cell 26
            have cr12 : W8.cell? ⟨R, 27, none⟩ = some (.int .i64 (q' 12)) := bR8.cell 27
            have cr13 : W8.cell? ⟨R, 28, none⟩ = some (.int .i64 (q' 13)) := bR8.cell 28
            have cq0 : W8.cell? ⟨R + 1, 0, none⟩ = some (.int .i64 (q' 0)) := bB8.cell 0
            have cq1 : W8.cell? ⟨R + 1, 1, none⟩ = some (.int .i64 (q' 1)) := bB8.cell 1
            have cq2 : W8.cell? ⟨R + 1, 2, none⟩ = some (.int .i64 (q' 2)) := bB8.cell 2
            have cq3 : W8.cell? ⟨R + 1, 3, none⟩ = some (.int .i64 (q' 3)) := bB8.cell 3
            have cq4 : W8.cell? ⟨R + 1, 4, none⟩ = some (.int .i64 (q' 4)) := bB8.cell 4
            have cq5 : W8.cell? ⟨R + 1, 5, none⟩ = some (.int .i64 (q' 5)) := bB8.cell 5
            have cq6 : W8.cell? ⟨R + 1, 6, none⟩ = some (.int .i64 (q' 6)) := bB8.cell 6
            have cq7 : W8.cell? ⟨R + 1, 7, none⟩ = some (.int .i64 (q' 7)) := bB8.cell 7
            have cq8 : W8.cell? ⟨R + 1, 8, none⟩ = some (.int .i64 (q' 8)) := bB8.cell 8
            have cq9 : W8.cell? ⟨R + 1, 9, none⟩ = some (.int .i64 (q' 9)) := bB8.cell 9
            have cq10 : W8.cell? ⟨R + 1, 10, none⟩ = some (.int .i64 (q' 10)) := bB8.cell 10
            have cq11 : W8.cell? ⟨R + 1, 11, none⟩ = some (.int .i64 (q' 11)) := bB8.cell 11
            have cq12 : W8.cell? ⟨R + 1, 12, none⟩ = some (.int .i64 (q' 12)) := bB8.cell 12
            have cq13 : W8.cell? ⟨R + 1, 13, none⟩ = some (.int .i64 (q' 13)) := bB8.cell 13
            have cz0 : W8.cell? ⟨R, 0, none⟩ = some (.slice (some ⟨g3, 0, none⟩) (n + 1) c3) := bR8.cell 0
            have cz1 : W8.cell? ⟨R, 1, none⟩ = some (.slice none 0 0) := bR8.cell 1
            have cz2 : W8.cell? ⟨R, 2, none⟩ = some (.slice none 0 0) := bR8.cell 2
            have cz3 : W8.cell? ⟨R, 3, none⟩ = some (.slice none 0 0) := bR8.cell 3
            have cz4 : W8.cell? ⟨R, 4, none⟩ = some (.map none) := bR8.cell 4
            have cz5 : W8.cell? ⟨R, 5, none⟩ = some (.string ⟨#[]⟩) := bR8.cell 5
            have cz6 : W8.cell? ⟨R, 6, none⟩ = some (.pointer none) := bR8.cell 6
            have cz7 : W8.cell? ⟨R, 7, none⟩ = some (.int .i64 0) := bR8.cell 7
            have cz8 : W8.cell? ⟨R, 8, none⟩ = some (.int .i64 0) := bR8.cell 8
            have cz9 : W8.cell? ⟨R, 9, none⟩ = some (.int .i64 0) := bR8.cell 9
            have cz10 : W8.cell? ⟨R, 10, none⟩ = some (.int .i64 0) := bR8.cell 10
            have cz11 : W8.cell? ⟨R, 11, none⟩ = some (.int .i64 0) := bR8.cell 11
            have cz12 : W8.cell? ⟨R, 12, none⟩ = some (.int .i64 0) := bR8.cell 12
            have cz13 : W8.cell? ⟨R, 13, none⟩ = some (.int .i64 0) := bR8.cell 13
            have cz14 : W8.cell? ⟨R, 14, none⟩ = some (.int .i64 0) := bR8.cell 14
            have hneq := fun w => neq42 w q'
            have hneq1 := fun w => neq41 w 0 0
            have hq37 := fun w a n c n' c' => Lib.run_eql_slice_nil (P := Ybad.prog) w 37 79 a n c n' c' Ybad.underlying37
            have hq33 := fun w a n c n' c' => Lib.run_eql_slice_nil (P := Ybad.prog) w 33 77 a n c n' c' Ybad.underlying33
            have hq34 := fun w a n c n' c' => Lib.run_eql_slice_nil (P := Ybad.prog) w 34 51 a n c n' c' Ybad.underlying34
            have hq38 := fun w r => run_eql_map_nil (P := Ybad.prog) w 38 9 39 r Ybad.underlying38
            have HB8 := hide hB8
            clear hB8 hB7 bR8 bg38 bg48 bB8 bg4 hcur4 hW8 cw0 cw1 fw ct0
            go_quiet ((go_at_call 7; exact Calls.quiet_of (HEQ.out _)))
            go_wp2_with fail
            go_ret
            exact ⟨rfl, below_drewN HB8.out _⟩
end Go.Proofs.YbulkdtvyDoor.M
