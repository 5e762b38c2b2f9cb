import Derived.Test.YbulkdtxaAX5
import Derived.Test.YbulkdtxaARL
import Derived.Test.YbulkdtxaAX6
import Derived.Test.YbulkdtxaAP3
namespace Go.Proofs.YbulkdtxaA
open Go.RowKit RawMap

set_option maxHeartbeats 4000000 in
set_option maxRecDepth 100000 in
theorem new_any {w : World} (p : Option Addr) (tc : Nat) (tags : List (List UInt8)) (hl : tags.length ≤ 4096) (hb : ∀ s ∈ tags, s.length ≤ 1048576) (hp : tags ≠ [] → ∃ a, p = some a)
    (hc : ∀ a, p = some a → ∀ j s, tags[j]? = some s → w.cell? (a.add j) = some (encS s)) :
    Calls Yba.prog 7 #[.slice p tags.length tc] w fun e w' => e = .returned (.pointer (some ⟨w.heap.size + 2, 0, none⟩)) ∧ NSt w (w.heap.size + 2) w.heap.size (w.heap.size + 1) (w.heap.size + 3) (ddup [] tags) tags.length w' := by
  have hraw := hide hc
  have hlen := hide hb
  have hpp := hide hp
  clear hc hb hp
  have hmm := @run_makeMap Yba.prog
  have hmh := run_makeHint
  go_enter Yba.func7, Yba.ntmps7
  go_wp2
  have h0 := hide (NSt.start w)
  generalize (((w.alloc (.map #[] 0)).alloc (.map #[] 0)).alloc (.cells #[.slice none 0 0, .slice none 0 0, .slice none 0 0, .map (some w.heap.size), .map (some (w.heap.size + 1))] 36)).alloc (.map #[] 0) = w0 at h0 ⊢
  clear hmm hmh
  go_loopg [20] tags.length (fun f s20 wr => ∃ i : Nat, s20 = .int .i64 (i : Nat) ∧ i ≤ tags.length ∧ tags.length - i ≤ f ∧ Hid (NSt w (w.heap.size + 1 + 1) w.heap.size (w.heap.size + 1) (w.heap.size + 1 + 1 + 1) (ddup [] (tags.take i)) i wr))
  case atStart => exact ⟨0, rfl, by omega, by omega, h0.out⟩
  case round =>
    obtain ⟨i, rfl, hi, hf, hS⟩ := hrel
    by_cases hlt : i < tags.length
    · obtain ⟨a, ha⟩ := hpp.out (fun e => by rw [e] at hlt; simp at hlt)
      subst ha
      obtain ⟨tg, htg⟩ : ∃ tg, tags[i] = tg := ⟨_, rfl⟩
      have ci : wr.cell? (a.add i) = some (.string (str tg)) := by
        obtain ⟨nm, _, vw, vt, ws, row, fm, lm, hI, _⟩ := hS.out.mid
        exact hI.ext.cell (hraw.out a rfl i tg (by rw [List.getElem?_eq_getElem hlt, htg])) id
      have htl : tg.length ≤ 1048576 := by rw [← htg]; exact hlen.out _ (List.getElem_mem hlt)
      have hnext := ddup_next hlt htg
      obtain ⟨low, hlow⟩ : ∃ low, ddup [] (tags.take i) = low := ⟨_, rfl⟩
      have hlowl : low.length ≤ 4096 := by
        rw [← hlow]
        have := ddup_len [] (tags.take i)
        simp at this
        omega
      have hlowb : Hid (∀ t ∈ low, t.length ≤ 1048576) := by
        intro t ht
        rw [← hlow] at ht
        rcases ddup_mem _ _ _ ht with h | ⟨x, hx, rfl⟩
        · cases h
        · have := hlen.out x (List.mem_of_mem_take hx)
          simpa [lwS] using this
      rw [hlow] at hS hnext
      have HTG := hide hnext
      clear htg hraw hlen hpp hlow hnext h0
      have hlow9 : (lwS tg).length ≤ 1048576 := by simp only [lwS, List.length_map]; omega
      go_upto_if 28 with (go_at_call 14; refine (lower_any tg _ (by omega)).mono ?_; rintro e w1 ⟨rfl, hext⟩; obtain ⟨nm, hnm, hM0⟩ := hS.out.mid; have hM := hM0.ext hext; have hlook := hM.seen (lwS tg) (by omega); have HM := hide hM; clear hM hM0 hext hS ci)
      by_cases hm : lwS tg ∈ low
      · rw [decide_eq_true hm]
        go_wp2_with fail
        go_roundg (tags.length - (i + 1))
        case measure => omega
        case rel => exact ⟨i + 1, by go_num, by omega, by omega, by have h := HTG.out; rw [if_pos hm] at h; rw [h]; exact (HM.out.up (by omega)).back (Nat.le_trans hnm (Nat.mul_le_mul_right _ (by omega)))⟩
      · rw [decide_eq_false hm]
        obtain ⟨w2, hrun, hM2⟩ := HM.out.mark (lwS tg) (by omega) (by unfold maxLen; omega)
        have HM2 := hide hM2
        clear HM hM2 hlook
        have hx1 := HM2.out.lens
        obtain ⟨ta, tcap, cx⟩ := hx1
        go_upto_region 10 with fail
        go_cut [] (fun wx => Hid (MSt w (w.heap.size + 1 + 1) w.heap.size (w.heap.size + 1) (w.heap.size + 1 + 1 + 1) (low ++ [lwS tg]) (low ++ [lwS tg]) (setCon (conOf low) .all low.length) (i + 1) nm wx))
        case first =>
          obtain ⟨vw, vt, ws, row, fm, lm, hI, hlw, ⟨sm, hsm, hsm2⟩, hx⟩ := HM2.out
          obtain ⟨i9, hi9, hz9, hs9, hb9⟩ := inf9
          obtain ⟨i3, hi3, hz3, hs3, hb3⟩ := inf3
          obtain ⟨x2, hx2⟩ : ∃ x2, (row .all).getD nilS = x2 := ⟨_, rfl⟩
          have HX2 := hide hx2
          rw [hx2] at hI
          have HI := hide (hI.extend (w' := w2.drew) (Ext.drewN w2 1) (fun _ _ => id) id id id (fun _ _ _ _ _ => id) (fun _ _ => id) (fun _ _ => id))
          have HSM : Hid (Mp Yba.prog 9 w2.drew (w.heap.size + 1 + 1 + 1) (i + 1) sm) := hsm
          have HSMt := hide hsm2
          have hS0 := HI.out.cells3
          clear hI hsm hsm2 cx HM2 hrun hx2
          refine wp_region_any (by kernel_rfl) ?_
          change wpAny _ _ _ _ _ _ _ (World.drew _)
          generalize w2.drew = W0 at HI HSM hS0 ⊢
          refine takeP (i := 0) (o := { dst := some 36, op := Op.move (Operand.tmp 3), type := 26, pos := "", after := #[], guard := none }) (.pointer (some ⟨w.heap.size + 1 + 1, 0, none⟩)) (by rfl) rfl (by kernel_rfl) (by kernel_rfl) (by kernel_rfl) (fun _ _ _ h => h) (by intro w; go_simp) ?_
          try simp only [Act.put, List.setIfInBounds_toArray, List.set_cons_zero, List.set_cons_succ]
          refine takeP (i := 1) (o := { dst := some 37, op := Op.move (Operand.tmp 3), type := 26, pos := "", after := #[], guard := none }) (.pointer (some ⟨w.heap.size + 1 + 1, 0, none⟩)) (by rfl) rfl (by kernel_rfl) (by kernel_rfl) (by kernel_rfl) (fun _ _ _ h => h) (by intro w; go_simp) ?_
          try simp only [Act.put, List.setIfInBounds_toArray, List.set_cons_zero, List.set_cons_succ]
          refine takeP (i := 2) (o := { dst := some 38, op := Op.move (Operand.tmp 3), type := 26, pos := "", after := #[], guard := none }) (.pointer (some ⟨w.heap.size + 1 + 1, 0, none⟩)) (by rfl) rfl (by kernel_rfl) (by kernel_rfl) (by kernel_rfl) (fun _ _ _ h => h) (by intro w; go_simp) ?_
          try simp only [Act.put, List.setIfInBounds_toArray, List.set_cons_zero, List.set_cons_succ]
          refine takeP (i := 3) (o := { dst := some 39, op := Op.move (Operand.tmp 3), type := 26, pos := "", after := #[], guard := none }) (.pointer (some ⟨w.heap.size + 1 + 1, 0, none⟩)) (by rfl) rfl (by kernel_rfl) (by kernel_rfl) (by kernel_rfl) (fun _ _ _ h => h) (by intro w; go_simp) ?_
          try simp only [Act.put, List.setIfInBounds_toArray, List.set_cons_zero, List.set_cons_succ]
          refine takeP (i := 4) (o := { dst := some 40, op := Op.nilCheck (Operand.tmp 39), type := 0, pos := "", after := #[], guard := none }) (.pointer (some ⟨w.heap.size + 1 + 1, 0, none⟩)) (by rfl) rfl (by kernel_rfl) (by kernel_rfl) (by kernel_rfl) (fun _ _ _ h => h) (by intro w; go_simp) ?_
          try simp only [Act.put, List.setIfInBounds_toArray, List.set_cons_zero, List.set_cons_succ]
          refine takeP (i := 5) (o := { dst := some 41, op := Op.fieldAddr 36 (Operand.tmp 40) 0, type := 0, pos := "", after := #[], guard := none }) (.pointer (some ⟨w.heap.size + 1 + 1, 0, none⟩)) (by rfl) rfl (by kernel_rfl) (by kernel_rfl) (by kernel_rfl) (fun _ _ _ h => h) (by intro w; go_simp) ?_
          try simp only [Act.put, List.setIfInBounds_toArray, List.set_cons_zero, List.set_cons_succ]
          refine takeP (i := 7) (o := { dst := some 43, op := Op.move (Operand.tmp 6), type := 9, pos := "", after := #[], guard := none }) (.string (str tg)) (by rfl) rfl (by kernel_rfl) (by kernel_rfl) (by kernel_rfl) (fun _ _ _ h => h) (by intro w; go_simp) ?_
          try simp only [Act.put, List.setIfInBounds_toArray, List.set_cons_zero, List.set_cons_succ]
          refine takeP (i := 10) (o := { dst := some 46, op := Op.move (Operand.tmp 3), type := 26, pos := "", after := #[], guard := none }) (.pointer (some ⟨w.heap.size + 1 + 1, 0, none⟩)) (by rfl) rfl (by kernel_rfl) (by kernel_rfl) (by kernel_rfl) (fun _ _ _ h => h) (by intro w; go_simp) ?_
          try simp only [Act.put, List.setIfInBounds_toArray, List.set_cons_zero, List.set_cons_succ]
          refine takeP (i := 11) (o := { dst := some 47, op := Op.nilCheck (Operand.tmp 46), type := 0, pos := "", after := #[], guard := none }) (.pointer (some ⟨w.heap.size + 1 + 1, 0, none⟩)) (by rfl) rfl (by kernel_rfl) (by kernel_rfl) (by kernel_rfl) (fun _ _ _ h => h) (by intro w; go_simp) ?_
          try simp only [Act.put, List.setIfInBounds_toArray, List.set_cons_zero, List.set_cons_succ]
          refine takeP (i := 12) (o := { dst := some 48, op := Op.fieldAddr 36 (Operand.tmp 47) 1, type := 0, pos := "", after := #[], guard := none }) (.pointer (some ⟨w.heap.size + 1 + 1, 1, none⟩)) (by rfl) rfl (by kernel_rfl) (by kernel_rfl) (by kernel_rfl) (fun _ _ _ h => h) (by intro w; go_simp) ?_
          try simp only [Act.put, List.setIfInBounds_toArray, List.set_cons_zero, List.set_cons_succ]
          refine takeP (i := 14) (o := { dst := some 50, op := Op.move (Operand.tmp 7), type := 9, pos := "", after := #[], guard := none }) (.string (str (lwS tg))) (by rfl) rfl (by kernel_rfl) (by kernel_rfl) (by kernel_rfl) (fun _ _ _ h => h) (by intro w; go_simp) ?_
          try simp only [Act.put, List.setIfInBounds_toArray, List.set_cons_zero, List.set_cons_succ]
          refine takeP (i := 17) (o := { dst := some 53, op := Op.move (Operand.tmp 3), type := 26, pos := "", after := #[], guard := none }) (.pointer (some ⟨w.heap.size + 1 + 1, 0, none⟩)) (by rfl) rfl (by kernel_rfl) (by kernel_rfl) (by kernel_rfl) (fun _ _ _ h => h) (by intro w; go_simp) ?_
          try simp only [Act.put, List.setIfInBounds_toArray, List.set_cons_zero, List.set_cons_succ]
          refine takeP (i := 18) (o := { dst := some 54, op := Op.nilCheck (Operand.tmp 53), type := 0, pos := "", after := #[], guard := none }) (.pointer (some ⟨w.heap.size + 1 + 1, 0, none⟩)) (by rfl) rfl (by kernel_rfl) (by kernel_rfl) (by kernel_rfl) (fun _ _ _ h => h) (by intro w; go_simp) ?_
          try simp only [Act.put, List.setIfInBounds_toArray, List.set_cons_zero, List.set_cons_succ]
          refine takeP (i := 19) (o := { dst := some 55, op := Op.fieldAddr 36 (Operand.tmp 54) 2, type := 0, pos := "", after := #[], guard := none }) (.pointer (some ⟨w.heap.size + 1 + 1, 2, none⟩)) (by rfl) rfl (by kernel_rfl) (by kernel_rfl) (by kernel_rfl) (fun _ _ _ h => h) (by intro w; go_simp) ?_
          try simp only [Act.put, List.setIfInBounds_toArray, List.set_cons_zero, List.set_cons_succ]
          refine takeP (i := 21) (o := { dst := some 57, op := Op.move (Operand.tmp 8), type := 3, pos := "", after := #[], guard := none }) (.int .i64 (low.length : Nat)) (by rfl) rfl (by kernel_rfl) (by kernel_rfl) (by kernel_rfl) (fun _ _ _ h => h) (by intro w; go_simp) ?_
          try simp only [Act.put, List.setIfInBounds_toArray, List.set_cons_zero, List.set_cons_succ]
          refine wpAny_of_till (S := fun w' => w'.cell? ⟨w.heap.size + 1 + 1, 0, none⟩ = some vw ∧ w'.cell? ⟨w.heap.size + 1 + 1, 1, none⟩ = some vt ∧ w'.cell? ⟨w.heap.size + 1 + 1, 2, none⟩ = some x2) (st := 26) _ _ _ _ ?_
          refine takeL (i := 6) (o := { dst := some 42, op := Op.load 22 (Operand.tmp 41), type := 22, pos := "", after := #[], guard := none }) vw (by rfl) rfl (by rfl) (by kernel_rfl) (by kernel_rfl) (by kernel_rfl) (by kernel_rfl) (by kernel_rfl) (fun _ _ _ h => h) (by intro w hSw; obtain ⟨hSw0, hSw1, hSw2⟩ := hSw; go_simp) hS0 ?_
          try simp only [Act.put, List.setIfInBounds_toArray, List.set_cons_zero, List.set_cons_succ]
          refine takeL (i := 13) (o := { dst := some 49, op := Op.load 22 (Operand.tmp 48), type := 22, pos := "", after := #[], guard := none }) vt (by rfl) rfl (by rfl) (by kernel_rfl) (by kernel_rfl) (by kernel_rfl) (by kernel_rfl) (by kernel_rfl) (fun _ _ _ h => h) (by intro w hSw; obtain ⟨hSw0, hSw1, hSw2⟩ := hSw; go_simp) hS0 ?_
          try simp only [Act.put, List.setIfInBounds_toArray, List.set_cons_zero, List.set_cons_succ]
          refine takeL (i := 20) (o := { dst := some 56, op := Op.load 28 (Operand.tmp 55), type := 28, pos := "", after := #[], guard := none }) x2 (by rfl) rfl (by rfl) (by kernel_rfl) (by kernel_rfl) (by kernel_rfl) (by kernel_rfl) (by kernel_rfl) (fun _ _ _ h => h) (by intro w hSw; obtain ⟨hSw0, hSw1, hSw2⟩ := hSw; go_simp) hS0 ?_
          try simp only [Act.put, List.setIfInBounds_toArray, List.set_cons_zero, List.set_cons_succ]
          clear hS0
          refine wpTill_ready (rs := [8, 15, 22]) (by kernel_rfl) (by simp) ?_
          refine AllTill.consT (o := { dst := some 44, op := Op.buildSlice 22 1 #[(0, Operand.tmp 43)], type := 22, pos := "", after := #[], guard := none }) (by rfl) rfl (fun K hK => ?_) ?_
          · go_simp
            refine hK.out _ _ (.inr ((HI.out.alloc _).cells3)) ?_
            clear hK K
            try simp only [Act.put, List.setIfInBounds_toArray, List.set_cons_zero, List.set_cons_succ]
            have HP1 := hide (Pn.new HI.out (.string (str tg)) 9)
            have HI2 := hide (HI.out.alloc (.cells #[.string (str tg)] 9))
            clear HI
            have HI := HI2
            clear HI2
            have HSM2 := hide (Mp.alloc' HSM.out (.cells #[.string (str tg)] 9))
            clear HSM
            have HSM := HSM2
            clear HSM2
            generalize W0.alloc (.cells #[.string (str tg)] 9) = W1 at HP1 HI HSM ⊢
            refine wpTill_ready (rs := [9, 15, 22]) (by kernel_rfl) (by simp) ?_
            refine AllTill.consT (o := { dst := some 45, op := Op.call { callee := Callee.builtin Builtin.append, args := #[Operand.tmp 42, Operand.tmp 44], argTypes := #[22, 22] }, type := 22, pos := "", after := #[], guard := none }) (by rfl) rfl (fun K hK => ?_) ?_
            · refine step_append_one rfl _ _ 22 rfl 9 i9 _ 16 Yba.underlying22 hi9 hz9 hs9 hb9 rfl vw _ (by rfl) HI.out.ownW ⟨W0.heap.size, 0, none⟩ (.string (str tg)) (by rfl) HP1.out.cell rfl rfl (by simp [hlw, maxLen]; omega) (by simp [hlw]; omega) ?_
              intro v1 W2 hO hg hb
              have HSM2 := hide (Mp.grown HSM.out hg (own_cells HI.out.ownW))
              clear HSM
              have HSM := HSM2
              clear HSM2
              have HI2 := hide (HI.out.appW hO hg hb.out)
              clear HI HP1 hO hg hb
              have HI := HI2
              clear HI2
              refine hK.out _ _ (.inr HI.out.cells3) ?_
              clear hK K
              try simp only [Act.put, List.setIfInBounds_toArray, List.set_cons_zero, List.set_cons_succ]
              refine wpTill_ready (rs := [15, 22]) (by kernel_rfl) (by simp) ?_
              refine AllTill.consT (o := { dst := some 51, op := Op.buildSlice 22 1 #[(0, Operand.tmp 50)], type := 22, pos := "", after := #[], guard := none }) (by rfl) rfl (fun K hK => ?_) ?_
              · go_simp
                refine hK.out _ _ (.inr ((HI.out.alloc _).cells3)) ?_
                clear hK K
                try simp only [Act.put, List.setIfInBounds_toArray, List.set_cons_zero, List.set_cons_succ]
                have HP2 := hide (Pn.new HI.out (.string (str (lwS tg))) 9)
                have HI2 := hide (HI.out.alloc (.cells #[.string (str (lwS tg))] 9))
                clear HI
                have HI := HI2
                clear HI2
                have HSM2 := hide (Mp.alloc' HSM.out (.cells #[.string (str (lwS tg))] 9))
                clear HSM
                have HSM := HSM2
                clear HSM2
                generalize W2.alloc (.cells #[.string (str (lwS tg))] 9) = W3 at HP2 HI HSM ⊢
                refine wpTill_ready (rs := [16, 22]) (by kernel_rfl) (by simp) ?_
                refine AllTill.consT (o := { dst := some 52, op := Op.call { callee := Callee.builtin Builtin.append, args := #[Operand.tmp 49, Operand.tmp 51], argTypes := #[22, 22] }, type := 22, pos := "", after := #[], guard := none }) (by rfl) rfl (fun K hK => ?_) ?_
                · refine step_append_one rfl _ _ 22 rfl 9 i9 _ 16 Yba.underlying22 hi9 hz9 hs9 hb9 rfl vt _ (by rfl) HI.out.ownT ⟨W2.heap.size, 0, none⟩ (.string (str (lwS tg))) (by rfl) HP2.out.cell rfl rfl (by simp [maxLen]; omega) (by simp; omega) ?_
                  intro v2 W4 hO hg hb
                  have HSM2 := hide (Mp.grown HSM.out hg (own_cells HI.out.ownT))
                  clear HSM
                  have HSM := HSM2
                  clear HSM2
                  have HI2 := hide (HI.out.appT hO hg hb.out)
                  clear HI HP2 hO hg hb
                  have HI := HI2
                  clear HI2
                  refine hK.out _ _ (.inr HI.out.cells3) ?_
                  clear hK K
                  try simp only [Act.put, List.setIfInBounds_toArray, List.set_cons_zero, List.set_cons_succ]
                  refine wpTill_ready (rs := [22]) (by kernel_rfl) (by simp) ?_
                  refine AllTill.consT (o := { dst := some 58, op := Op.buildSlice 28 1 #[(0, Operand.tmp 57)], type := 28, pos := "", after := #[], guard := none }) (by rfl) rfl (fun K hK => ?_) ?_
                  · go_simp
                    refine hK.out _ _ (.inr ((HI.out.alloc _).cells3)) ?_
                    clear hK K
                    try simp only [Act.put, List.setIfInBounds_toArray, List.set_cons_zero, List.set_cons_succ]
                    have HP3 := hide (Pn.new HI.out (.int .i64 (low.length : Nat)) 3)
                    have HI2 := hide (HI.out.alloc (.cells #[.int .i64 (low.length : Nat)] 3))
                    clear HI
                    have HI := HI2
                    clear HI2
                    have HSM2 := hide (Mp.alloc' HSM.out (.cells #[.int .i64 (low.length : Nat)] 3))
                    clear HSM
                    have HSM := HSM2
                    clear HSM2
                    generalize W4.alloc (.cells #[.int .i64 (low.length : Nat)] 3) = W5 at HP3 HI HSM ⊢
                    refine wpTill_ready (rs := [23]) (by kernel_rfl) (by simp) ?_
                    refine AllTill.consT (o := { dst := some 59, op := Op.call { callee := Callee.builtin Builtin.append, args := #[Operand.tmp 56, Operand.tmp 58], argTypes := #[28, 28] }, type := 28, pos := "", after := #[], guard := none }) (by rfl) rfl (fun K hK => ?_) ?_
                    · refine step_append_one rfl _ _ 28 rfl 3 i3 _ 8 Yba.underlying28 hi3 hz3 hs3 hb3 rfl x2 _ (by rfl) (HX2.out ▸ HI.out.fam.ownD .all) ⟨W4.heap.size, 0, none⟩ (.int .i64 (low.length : Nat)) (by rfl) HP3.out.cell rfl rfl (by simp [conOf, maxLen]; omega) (by simp [conOf]; omega) ?_
                      intro v3 W6 hO hg hb
                      have HSM2 := hide (Mp.grown HSM.out hg (own_cells (HX2.out ▸ HI.out.fam.ownD .all)))
                      clear HSM
                      have HSM := HSM2
                      clear HSM2
                      have HI2 := hide (HI.out.appAll low.length hO (HX2.out ▸ hg) (HX2.out ▸ hb.out))
                      clear HI HP3 hO hg hb
                      have HI := HI2
                      clear HI2
                      refine hK.out _ _ (.inr HI.out.cells3) ?_
                      clear hK K
                      try simp only [Act.put, List.setIfInBounds_toArray, List.set_cons_zero, List.set_cons_succ]
                      as_aux_lemma =>
                        obtain ⟨n1, a1, c1, rfl⟩ : ∃ n a c, v1 = .slice a n c := by obtain ⟨a, c, h⟩ := HI.out.ownW.form; exact ⟨_, a, c, h⟩
                        obtain ⟨n2, a2, c2, rfl⟩ : ∃ n a c, v2 = .slice a n c := by obtain ⟨a, c, h⟩ := HI.out.ownT.form; exact ⟨_, a, c, h⟩
                        obtain ⟨n3, a3, c3, rfl⟩ : ∃ n a c, v3 = .slice a n c := by obtain ⟨a, c, h⟩ := (HI.out.fam.own .all v3 (by simp [setRow'])).form; exact ⟨_, a, c, h⟩
                        refine wpTill_ready (rs := [24]) (by kernel_rfl) (by simp) ?_
                        refine AllTill.consT (o := { dst := some 60, op := Op.nilCheck (Operand.tmp 36), type := 0, pos := "", after := #[], guard := none }) (by rfl) rfl (fun K hK => ?_) AllTill.nil
                        go_simp
                        refine hK.out _ _ (.inr HI.out.cells3) ?_
                        clear hK K
                        try simp only [Act.put, List.setIfInBounds_toArray, List.set_cons_zero, List.set_cons_succ]
                        refine wpTill_ready (rs := [25]) (by kernel_rfl) (by simp) ?_
                        refine AllTill.consT (o := { dst := some 61, op := Op.fieldAddr 36 (Operand.tmp 60) 0, type := 0, pos := "", after := #[], guard := none }) (by rfl) rfl (fun K hK => ?_) AllTill.nil
                        go_simp
                        refine hK.out _ _ (.inr HI.out.cells3) ?_
                        clear hK K
                        try simp only [Act.put, List.setIfInBounds_toArray, List.set_cons_zero, List.set_cons_succ]
                        refine wpTill_ready (rs := [26]) (by kernel_rfl) (by simp) ?_
                        refine AllTill.consT (o := { dst := none, op := Op.store 22 (Operand.tmp 61) (Operand.tmp 45), type := 0, pos := "", after := #[], guard := none }) (by rfl) rfl (fun K hK => ?_) AllTill.nil
                        have kc : W6.cell? ⟨w.heap.size + 1 + 1, 0, none⟩ = some vw := HI.out.xblk.cell 0
                        have kf : W6.frozen? ⟨w.heap.size + 1 + 1, 0, none⟩ = false := HI.out.xblk.frozen 0
                        go_simp
                        clear kc kf
                        refine hK.out _ _ (.inl (by kernel_rfl)) ?_
                        clear hK K
                        try simp only [Act.put, List.setIfInBounds_toArray, List.set_cons_zero, List.set_cons_succ]
                        have HSM2 := hide (Mp.set HSM.out HI.out.xblk 0 (.slice a1 n1 c1))
                        clear HSM
                        have HSM := HSM2
                        clear HSM2
                        obtain ⟨cc, hcc, _, hnx⟩ := HI.out.store (.slice a1 n1 c1) 0
                        have HI2 := hide (hnx (.slice a1 n1 c1) vt x2 hcc)
                        clear HI hnx hcc
                        have HI := HI2
                        clear HI2
                        generalize W6.setCell ⟨w.heap.size + 1 + 1, 0, none⟩ (.slice a1 n1 c1) = W7 at HI HSM ⊢
                        refine wpTill_ready (rs := [27]) (by kernel_rfl) (by simp) ?_
                        refine AllTill.consT (o := { dst := some 62, op := Op.nilCheck (Operand.tmp 37), type := 0, pos := "", after := #[], guard := none }) (by rfl) rfl (fun K hK => ?_) AllTill.nil
                        go_simp
                        refine hK.out _ _ (.inl (by kernel_rfl)) ?_
                        clear hK K
                        try simp only [Act.put, List.setIfInBounds_toArray, List.set_cons_zero, List.set_cons_succ]
                        refine wpTill_ready (rs := [28]) (by kernel_rfl) (by simp) ?_
                        refine AllTill.consT (o := { dst := some 63, op := Op.fieldAddr 36 (Operand.tmp 62) 1, type := 0, pos := "", after := #[], guard := none }) (by rfl) rfl (fun K hK => ?_) AllTill.nil
                        go_simp
                        refine hK.out _ _ (.inl (by kernel_rfl)) ?_
                        clear hK K
                        try simp only [Act.put, List.setIfInBounds_toArray, List.set_cons_zero, List.set_cons_succ]
                        refine wpTill_ready (rs := [29]) (by kernel_rfl) (by simp) ?_
                        refine AllTill.consT (o := { dst := none, op := Op.store 22 (Operand.tmp 63) (Operand.tmp 52), type := 0, pos := "", after := #[], guard := none }) (by rfl) rfl (fun K hK => ?_) AllTill.nil
                        have kc : W7.cell? ⟨w.heap.size + 1 + 1, 1, none⟩ = some vt := HI.out.xblk.cell 1
                        have kf : W7.frozen? ⟨w.heap.size + 1 + 1, 1, none⟩ = false := HI.out.xblk.frozen 1
                        go_simp
                        clear kc kf
                        refine hK.out _ _ (.inl (by kernel_rfl)) ?_
                        clear hK K
                        try simp only [Act.put, List.setIfInBounds_toArray, List.set_cons_zero, List.set_cons_succ]
                        have HSM2 := hide (Mp.set HSM.out HI.out.xblk 1 (.slice a2 n2 c2))
                        clear HSM
                        have HSM := HSM2
                        clear HSM2
                        obtain ⟨cc, hcc, _, hnx⟩ := HI.out.store (.slice a2 n2 c2) 1
                        have HI2 := hide (hnx (.slice a1 n1 c1) (.slice a2 n2 c2) x2 hcc)
                        clear HI hnx hcc
                        have HI := HI2
                        clear HI2
                        generalize W7.setCell ⟨w.heap.size + 1 + 1, 1, none⟩ (.slice a2 n2 c2) = W8 at HI HSM ⊢
                        refine wpTill_ready (rs := [30]) (by kernel_rfl) (by simp) ?_
                        refine AllTill.consT (o := { dst := some 64, op := Op.nilCheck (Operand.tmp 38), type := 0, pos := "", after := #[], guard := none }) (by rfl) rfl (fun K hK => ?_) AllTill.nil
                        go_simp
                        refine hK.out _ _ (.inl (by kernel_rfl)) ?_
                        clear hK K
                        try simp only [Act.put, List.setIfInBounds_toArray, List.set_cons_zero, List.set_cons_succ]
                        refine wpTill_ready (rs := [31]) (by kernel_rfl) (by simp) ?_
                        refine AllTill.consT (o := { dst := some 65, op := Op.fieldAddr 36 (Operand.tmp 64) 2, type := 0, pos := "", after := #[], guard := none }) (by rfl) rfl (fun K hK => ?_) AllTill.nil
                        go_simp
                        refine hK.out _ _ (.inl (by kernel_rfl)) ?_
                        clear hK K
                        try simp only [Act.put, List.setIfInBounds_toArray, List.set_cons_zero, List.set_cons_succ]
                        refine wpTill_ready (rs := [32]) (by kernel_rfl) (by simp) ?_
                        refine AllTill.consT (o := { dst := none, op := Op.store 28 (Operand.tmp 65) (Operand.tmp 59), type := 0, pos := "", after := #[], guard := none }) (by rfl) rfl (fun K hK => ?_) AllTill.nil
                        have kc : W8.cell? ⟨w.heap.size + 1 + 1, 2, none⟩ = some x2 := HI.out.xblk.cell 2
                        have kf : W8.frozen? ⟨w.heap.size + 1 + 1, 2, none⟩ = false := HI.out.xblk.frozen 2
                        go_simp
                        clear kc kf
                        refine hK.out _ _ (.inl (by kernel_rfl)) ?_
                        clear hK K
                        try simp only [Act.put, List.setIfInBounds_toArray, List.set_cons_zero, List.set_cons_succ]
                        have HSM2 := hide (Mp.set HSM.out HI.out.xblk 2 (.slice a3 n3 c3))
                        clear HSM
                        have HSM := HSM2
                        clear HSM2
                        obtain ⟨cc, hcc, _, hnx⟩ := HI.out.store (.slice a3 n3 c3) 2
                        have HI2 := hide (hnx (.slice a1 n1 c1) (.slice a2 n2 c2) (.slice a3 n3 c3) hcc)
                        clear HI hnx hcc
                        have HI := HI2
                        clear HI2
                        generalize W8.setCell ⟨w.heap.size + 1 + 1, 2, none⟩ (.slice a3 n3 c3) = W9 at HI HSM ⊢
                        refine wpTill_done (by kernel_rfl) ?_ _
                        go_wp2_with fail
                        go_meet
                        case rel => exact ⟨(.slice a1 n1 c1), (.slice a2 n2 c2), ws ++ [tg], setRow' row .all (.slice a3 n3 c3), fm, lm, HI.out, by simp [hlw], ⟨sm, HSM.out, HSMt.out⟩, hx⟩
                    exact AllTill.nil
                  exact AllTill.nil
                refine AllTill.consT (o := { dst := some 58, op := Op.buildSlice 28 1 #[(0, Operand.tmp 57)], type := 28, pos := "", after := #[], guard := none }) (by rfl) rfl (fun K hK => ?_) ?_
                · go_simp
                  refine hK.out _ _ (.inr ((HI.out.alloc _).cells3)) ?_
                  clear hK K
                  try simp only [Act.put, List.setIfInBounds_toArray, List.set_cons_zero, List.set_cons_succ]
                  have HP3 := hide (Pn.new HI.out (.int .i64 (low.length : Nat)) 3)
                  have HQ2 := hide (HP2.out.alloc (.cells #[.int .i64 (low.length : Nat)] 3))
                  clear HP2
                  have HP2 := HQ2
                  clear HQ2
                  have HI2 := hide (HI.out.alloc (.cells #[.int .i64 (low.length : Nat)] 3))
                  clear HI
                  have HI := HI2
                  clear HI2
                  have HSM2 := hide (Mp.alloc' HSM.out (.cells #[.int .i64 (low.length : Nat)] 3))
                  clear HSM
                  have HSM := HSM2
                  clear HSM2
                  generalize W3.alloc (.cells #[.int .i64 (low.length : Nat)] 3) = W10 at HP3 HP2 HI HSM ⊢
                  refine wpTill_ready (rs := [16]) (by kernel_rfl) (by simp) ?_
                  refine AllTill.consT (o := { dst := some 52, op := Op.call { callee := Callee.builtin Builtin.append, args := #[Operand.tmp 49, Operand.tmp 51], argTypes := #[22, 22] }, type := 22, pos := "", after := #[], guard := none }) (by rfl) rfl (fun K hK => ?_) ?_
                  · refine step_append_one rfl _ _ 22 rfl 9 i9 _ 16 Yba.underlying22 hi9 hz9 hs9 hb9 rfl vt _ (by rfl) HI.out.ownT ⟨W2.heap.size, 0, none⟩ (.string (str (lwS tg))) (by rfl) HP2.out.cell rfl rfl (by simp [maxLen]; omega) (by simp; omega) ?_
                    intro v2 W11 hO hg hb
                    have HQ3 := hide (HP3.out.appT hg hb.out)
                    clear HP3
                    have HP3 := HQ3
                    clear HQ3
                    have HSM2 := hide (Mp.grown HSM.out hg (own_cells HI.out.ownT))
                    clear HSM
                    have HSM := HSM2
                    clear HSM2
                    have HI2 := hide (HI.out.appT hO hg hb.out)
                    clear HI HP2 hO hg hb
                    have HI := HI2
                    clear HI2
                    refine hK.out _ _ (.inr HI.out.cells3) ?_
                    clear hK K
                    try simp only [Act.put, List.setIfInBounds_toArray, List.set_cons_zero, List.set_cons_succ]
                    refine wpTill_ready (rs := [23]) (by kernel_rfl) (by simp) ?_
                    refine AllTill.consT (o := { dst := some 59, op := Op.call { callee := Callee.builtin Builtin.append, args := #[Operand.tmp 56, Operand.tmp 58], argTypes := #[28, 28] }, type := 28, pos := "", after := #[], guard := none }) (by rfl) rfl (fun K hK => ?_) ?_
                    · refine step_append_one rfl _ _ 28 rfl 3 i3 _ 8 Yba.underlying28 hi3 hz3 hs3 hb3 rfl x2 _ (by rfl) (HX2.out ▸ HI.out.fam.ownD .all) ⟨W3.heap.size, 0, none⟩ (.int .i64 (low.length : Nat)) (by rfl) HP3.out.cell rfl rfl (by simp [conOf, maxLen]; omega) (by simp [conOf]; omega) ?_
                      intro v3 W12 hO hg hb
                      have HSM2 := hide (Mp.grown HSM.out hg (own_cells (HX2.out ▸ HI.out.fam.ownD .all)))
                      clear HSM
                      have HSM := HSM2
                      clear HSM2
                      have HI2 := hide (HI.out.appAll low.length hO (HX2.out ▸ hg) (HX2.out ▸ hb.out))
                      clear HI HP3 hO hg hb
                      have HI := HI2
                      clear HI2
                      refine hK.out _ _ (.inr HI.out.cells3) ?_
                      clear hK K
                      try simp only [Act.put, List.setIfInBounds_toArray, List.set_cons_zero, List.set_cons_succ]
                      as_aux_lemma =>
                        obtain ⟨n1, a1, c1, rfl⟩ : ∃ n a c, v1 = .slice a n c := by obtain ⟨a, c, h⟩ := HI.out.ownW.form; exact ⟨_, a, c, h⟩
                        obtain ⟨n2, a2, c2, rfl⟩ : ∃ n a c, v2 = .slice a n c := by obtain ⟨a, c, h⟩ := HI.out.ownT.form; exact ⟨_, a, c, h⟩
                        obtain ⟨n3, a3, c3, rfl⟩ : ∃ n a c, v3 = .slice a n c := by obtain ⟨a, c, h⟩ := (HI.out.fam.own .all v3 (by simp [setRow'])).form; exact ⟨_, a, c, h⟩
                        refine wpTill_ready (rs := [24]) (by kernel_rfl) (by simp) ?_
                        refine AllTill.consT (o := { dst := some 60, op := Op.nilCheck (Operand.tmp 36), type := 0, pos := "", after := #[], guard := none }) (by rfl) rfl (fun K hK => ?_) AllTill.nil
                        go_simp
                        refine hK.out _ _ (.inr HI.out.cells3) ?_
                        clear hK K
                        try simp only [Act.put, List.setIfInBounds_toArray, List.set_cons_zero, List.set_cons_succ]
                        refine wpTill_ready (rs := [25]) (by kernel_rfl) (by simp) ?_
                        refine AllTill.consT (o := { dst := some 61, op := Op.fieldAddr 36 (Operand.tmp 60) 0, type := 0, pos := "", after := #[], guard := none }) (by rfl) rfl (fun K hK => ?_) AllTill.nil
                        go_simp
                        refine hK.out _ _ (.inr HI.out.cells3) ?_
                        clear hK K
                        try simp only [Act.put, List.setIfInBounds_toArray, List.set_cons_zero, List.set_cons_succ]
                        refine wpTill_ready (rs := [26]) (by kernel_rfl) (by simp) ?_
                        refine AllTill.consT (o := { dst := none, op := Op.store 22 (Operand.tmp 61) (Operand.tmp 45), type := 0, pos := "", after := #[], guard := none }) (by rfl) rfl (fun K hK => ?_) AllTill.nil
                        have kc : W12.cell? ⟨w.heap.size + 1 + 1, 0, none⟩ = some vw := HI.out.xblk.cell 0
                        have kf : W12.frozen? ⟨w.heap.size + 1 + 1, 0, none⟩ = false := HI.out.xblk.frozen 0
                        go_simp
                        clear kc kf
                        refine hK.out _ _ (.inl (by kernel_rfl)) ?_
                        clear hK K
                        try simp only [Act.put, List.setIfInBounds_toArray, List.set_cons_zero, List.set_cons_succ]
                        have HSM2 := hide (Mp.set HSM.out HI.out.xblk 0 (.slice a1 n1 c1))
                        clear HSM
                        have HSM := HSM2
                        clear HSM2
                        obtain ⟨cc, hcc, _, hnx⟩ := HI.out.store (.slice a1 n1 c1) 0
                        have HI2 := hide (hnx (.slice a1 n1 c1) vt x2 hcc)
                        clear HI hnx hcc
                        have HI := HI2
                        clear HI2
                        generalize W12.setCell ⟨w.heap.size + 1 + 1, 0, none⟩ (.slice a1 n1 c1) = W13 at HI HSM ⊢
                        refine wpTill_ready (rs := [27]) (by kernel_rfl) (by simp) ?_
                        refine AllTill.consT (o := { dst := some 62, op := Op.nilCheck (Operand.tmp 37), type := 0, pos := "", after := #[], guard := none }) (by rfl) rfl (fun K hK => ?_) AllTill.nil
                        go_simp
                        refine hK.out _ _ (.inl (by kernel_rfl)) ?_
                        clear hK K
                        try simp only [Act.put, List.setIfInBounds_toArray, List.set_cons_zero, List.set_cons_succ]
                        refine wpTill_ready (rs := [28]) (by kernel_rfl) (by simp) ?_
                        refine AllTill.consT (o := { dst := some 63, op := Op.fieldAddr 36 (Operand.tmp 62) 1, type := 0, pos := "", after := #[], guard := none }) (by rfl) rfl (fun K hK => ?_) AllTill.nil
                        go_simp
                        refine hK.out _ _ (.inl (by kernel_rfl)) ?_
                        clear hK K
                        try simp only [Act.put, List.setIfInBounds_toArray, List.set_cons_zero, List.set_cons_succ]
                        refine wpTill_ready (rs := [29]) (by kernel_rfl) (by simp) ?_
                        refine AllTill.consT (o := { dst := none, op := Op.store 22 (Operand.tmp 63) (Operand.tmp 52), type := 0, pos := "", after := #[], guard := none }) (by rfl) rfl (fun K hK => ?_) AllTill.nil
                        have kc : W13.cell? ⟨w.heap.size + 1 + 1, 1, none⟩ = some vt := HI.out.xblk.cell 1
                        have kf : W13.frozen? ⟨w.heap.size + 1 + 1, 1, none⟩ = false := HI.out.xblk.frozen 1
                        go_simp
                        clear kc kf
                        refine hK.out _ _ (.inl (by kernel_rfl)) ?_
                        clear hK K
                        try simp only [Act.put, List.setIfInBounds_toArray, List.set_cons_zero, List.set_cons_succ]
                        have HSM2 := hide (Mp.set HSM.out HI.out.xblk 1 (.slice a2 n2 c2))
                        clear HSM
                        have HSM := HSM2
                        clear HSM2
                        obtain ⟨cc, hcc, _, hnx⟩ := HI.out.store (.slice a2 n2 c2) 1
                        have HI2 := hide (hnx (.slice a1 n1 c1) (.slice a2 n2 c2) x2 hcc)
                        clear HI hnx hcc
                        have HI := HI2
                        clear HI2
                        generalize W13.setCell ⟨w.heap.size + 1 + 1, 1, none⟩ (.slice a2 n2 c2) = W14 at HI HSM ⊢
                        refine wpTill_ready (rs := [30]) (by kernel_rfl) (by simp) ?_
                        refine AllTill.consT (o := { dst := some 64, op := Op.nilCheck (Operand.tmp 38), type := 0, pos := "", after := #[], guard := none }) (by rfl) rfl (fun K hK => ?_) AllTill.nil
                        go_simp
                        refine hK.out _ _ (.inl (by kernel_rfl)) ?_
                        clear hK K
                        try simp only [Act.put, List.setIfInBounds_toArray, List.set_cons_zero, List.set_cons_succ]
                        refine wpTill_ready (rs := [31]) (by kernel_rfl) (by simp) ?_
                        refine AllTill.consT (o := { dst := some 65, op := Op.fieldAddr 36 (Operand.tmp 64) 2, type := 0, pos := "", after := #[], guard := none }) (by rfl) rfl (fun K hK => ?_) AllTill.nil
                        go_simp
                        refine hK.out _ _ (.inl (by kernel_rfl)) ?_
                        clear hK K
                        try simp only [Act.put, List.setIfInBounds_toArray, List.set_cons_zero, List.set_cons_succ]
                        refine wpTill_ready (rs := [32]) (by kernel_rfl) (by simp) ?_
                        refine AllTill.consT (o := { dst := none, op := Op.store 28 (Operand.tmp 65) (Operand.tmp 59), type := 0, pos := "", after := #[], guard := none }) (by rfl) rfl (fun K hK => ?_) AllTill.nil
                        have kc : W14.cell? ⟨w.heap.size + 1 + 1, 2, none⟩ = some x2 := HI.out.xblk.cell 2
                        have kf : W14.frozen? ⟨w.heap.size + 1 + 1, 2, none⟩ = false := HI.out.xblk.frozen 2
                        go_simp
                        clear kc kf
                        refine hK.out _ _ (.inl (by kernel_rfl)) ?_
                        clear hK K
                        try simp only [Act.put, List.setIfInBounds_toArray, List.set_cons_zero, List.set_cons_succ]
                        have HSM2 := hide (Mp.set HSM.out HI.out.xblk 2 (.slice a3 n3 c3))
                        clear HSM
                        have HSM := HSM2
                        clear HSM2
                        obtain ⟨cc, hcc, _, hnx⟩ := HI.out.store (.slice a3 n3 c3) 2
                        have HI2 := hide (hnx (.slice a1 n1 c1) (.slice a2 n2 c2) (.slice a3 n3 c3) hcc)
                        clear HI hnx hcc
                        have HI := HI2
                        clear HI2
                        generalize W14.setCell ⟨w.heap.size + 1 + 1, 2, none⟩ (.slice a3 n3 c3) = W15 at HI HSM ⊢
                        refine wpTill_done (by kernel_rfl) ?_ _
                        go_wp2_with fail
                        go_meet
                        case rel => exact ⟨(.slice a1 n1 c1), (.slice a2 n2 c2), ws ++ [tg], setRow' row .all (.slice a3 n3 c3), fm, lm, HI.out, by simp [hlw], ⟨sm, HSM.out, HSMt.out⟩, hx⟩
                    exact AllTill.nil
                  exact AllTill.nil
                exact AllTill.nil
              refine AllTill.consT (o := { dst := some 58, op := Op.buildSlice 28 1 #[(0, Operand.tmp 57)], type := 28, pos := "", after := #[], guard := none }) (by rfl) rfl (fun K hK => ?_) ?_
              · go_simp
                refine hK.out _ _ (.inr ((HI.out.alloc _).cells3)) ?_
                clear hK K
                try simp only [Act.put, List.setIfInBounds_toArray, List.set_cons_zero, List.set_cons_succ]
                have HP3 := hide (Pn.new HI.out (.int .i64 (low.length : Nat)) 3)
                have HI2 := hide (HI.out.alloc (.cells #[.int .i64 (low.length : Nat)] 3))
                clear HI
                have HI := HI2
                clear HI2
                have HSM2 := hide (Mp.alloc' HSM.out (.cells #[.int .i64 (low.length : Nat)] 3))
                clear HSM
                have HSM := HSM2
                clear HSM2
                generalize W2.alloc (.cells #[.int .i64 (low.length : Nat)] 3) = W16 at HP3 HI HSM ⊢
                refine wpTill_ready (rs := [15]) (by kernel_rfl) (by simp) ?_
                refine AllTill.consT (o := { dst := some 51, op := Op.buildSlice 22 1 #[(0, Operand.tmp 50)], type := 22, pos := "", after := #[], guard := none }) (by rfl) rfl (fun K hK => ?_) ?_
                · go_simp
                  refine hK.out _ _ (.inr ((HI.out.alloc _).cells3)) ?_
                  clear hK K
                  try simp only [Act.put, List.setIfInBounds_toArray, List.set_cons_zero, List.set_cons_succ]
                  have HP2 := hide (Pn.new HI.out (.string (str (lwS tg))) 9)
                  have HQ3 := hide (HP3.out.alloc (.cells #[.string (str (lwS tg))] 9))
                  clear HP3
                  have HP3 := HQ3
                  clear HQ3
                  have HI2 := hide (HI.out.alloc (.cells #[.string (str (lwS tg))] 9))
                  clear HI
                  have HI := HI2
                  clear HI2
                  have HSM2 := hide (Mp.alloc' HSM.out (.cells #[.string (str (lwS tg))] 9))
                  clear HSM
                  have HSM := HSM2
                  clear HSM2
                  generalize W16.alloc (.cells #[.string (str (lwS tg))] 9) = W17 at HP2 HP3 HI HSM ⊢
                  refine wpTill_ready (rs := [16]) (by kernel_rfl) (by simp) ?_
                  refine AllTill.consT (o := { dst := some 52, op := Op.call { callee := Callee.builtin Builtin.append, args := #[Operand.tmp 49, Operand.tmp 51], argTypes := #[22, 22] }, type := 22, pos := "", after := #[], guard := none }) (by rfl) rfl (fun K hK => ?_) ?_
                  · refine step_append_one rfl _ _ 22 rfl 9 i9 _ 16 Yba.underlying22 hi9 hz9 hs9 hb9 rfl vt _ (by rfl) HI.out.ownT ⟨W16.heap.size, 0, none⟩ (.string (str (lwS tg))) (by rfl) HP2.out.cell rfl rfl (by simp [maxLen]; omega) (by simp; omega) ?_
                    intro v2 W18 hO hg hb
                    have HQ3 := hide (HP3.out.appT hg hb.out)
                    clear HP3
                    have HP3 := HQ3
                    clear HQ3
                    have HSM2 := hide (Mp.grown HSM.out hg (own_cells HI.out.ownT))
                    clear HSM
                    have HSM := HSM2
                    clear HSM2
                    have HI2 := hide (HI.out.appT hO hg hb.out)
                    clear HI HP2 hO hg hb
                    have HI := HI2
                    clear HI2
                    refine hK.out _ _ (.inr HI.out.cells3) ?_
                    clear hK K
                    try simp only [Act.put, List.setIfInBounds_toArray, List.set_cons_zero, List.set_cons_succ]
                    refine wpTill_ready (rs := [23]) (by kernel_rfl) (by simp) ?_
                    refine AllTill.consT (o := { dst := some 59, op := Op.call { callee := Callee.builtin Builtin.append, args := #[Operand.tmp 56, Operand.tmp 58], argTypes := #[28, 28] }, type := 28, pos := "", after := #[], guard := none }) (by rfl) rfl (fun K hK => ?_) ?_
                    · refine step_append_one rfl _ _ 28 rfl 3 i3 _ 8 Yba.underlying28 hi3 hz3 hs3 hb3 rfl x2 _ (by rfl) (HX2.out ▸ HI.out.fam.ownD .all) ⟨W2.heap.size, 0, none⟩ (.int .i64 (low.length : Nat)) (by rfl) HP3.out.cell rfl rfl (by simp [conOf, maxLen]; omega) (by simp [conOf]; omega) ?_
                      intro v3 W19 hO hg hb
                      have HSM2 := hide (Mp.grown HSM.out hg (own_cells (HX2.out ▸ HI.out.fam.ownD .all)))
                      clear HSM
                      have HSM := HSM2
                      clear HSM2
                      have HI2 := hide (HI.out.appAll low.length hO (HX2.out ▸ hg) (HX2.out ▸ hb.out))
                      clear HI HP3 hO hg hb
                      have HI := HI2
                      clear HI2
                      refine hK.out _ _ (.inr HI.out.cells3) ?_
                      clear hK K
                      try simp only [Act.put, List.setIfInBounds_toArray, List.set_cons_zero, List.set_cons_succ]
                      as_aux_lemma =>
                        obtain ⟨n1, a1, c1, rfl⟩ : ∃ n a c, v1 = .slice a n c := by obtain ⟨a, c, h⟩ := HI.out.ownW.form; exact ⟨_, a, c, h⟩
                        obtain ⟨n2, a2, c2, rfl⟩ : ∃ n a c, v2 = .slice a n c := by obtain ⟨a, c, h⟩ := HI.out.ownT.form; exact ⟨_, a, c, h⟩
                        obtain ⟨n3, a3, c3, rfl⟩ : ∃ n a c, v3 = .slice a n c := by obtain ⟨a, c, h⟩ := (HI.out.fam.own .all v3 (by simp [setRow'])).form; exact ⟨_, a, c, h⟩
                        refine wpTill_ready (rs := [24]) (by kernel_rfl) (by simp) ?_
                        refine AllTill.consT (o := { dst := some 60, op := Op.nilCheck (Operand.tmp 36), type := 0, pos := "", after := #[], guard := none }) (by rfl) rfl (fun K hK => ?_) AllTill.nil
                        go_simp
                        refine hK.out _ _ (.inr HI.out.cells3) ?_
                        clear hK K
                        try simp only [Act.put, List.setIfInBounds_toArray, List.set_cons_zero, List.set_cons_succ]
                        refine wpTill_ready (rs := [25]) (by kernel_rfl) (by simp) ?_
                        refine AllTill.consT (o := { dst := some 61, op := Op.fieldAddr 36 (Operand.tmp 60) 0, type := 0, pos := "", after := #[], guard := none }) (by rfl) rfl (fun K hK => ?_) AllTill.nil
                        go_simp
                        refine hK.out _ _ (.inr HI.out.cells3) ?_
                        clear hK K
                        try simp only [Act.put, List.setIfInBounds_toArray, List.set_cons_zero, List.set_cons_succ]
                        refine wpTill_ready (rs := [26]) (by kernel_rfl) (by simp) ?_
                        refine AllTill.consT (o := { dst := none, op := Op.store 22 (Operand.tmp 61) (Operand.tmp 45), type := 0, pos := "", after := #[], guard := none }) (by rfl) rfl (fun K hK => ?_) AllTill.nil
                        have kc : W19.cell? ⟨w.heap.size + 1 + 1, 0, none⟩ = some vw := HI.out.xblk.cell 0
                        have kf : W19.frozen? ⟨w.heap.size + 1 + 1, 0, none⟩ = false := HI.out.xblk.frozen 0
                        go_simp
                        clear kc kf
                        refine hK.out _ _ (.inl (by kernel_rfl)) ?_
                        clear hK K
                        try simp only [Act.put, List.setIfInBounds_toArray, List.set_cons_zero, List.set_cons_succ]
                        have HSM2 := hide (Mp.set HSM.out HI.out.xblk 0 (.slice a1 n1 c1))
                        clear HSM
                        have HSM := HSM2
                        clear HSM2
                        obtain ⟨cc, hcc, _, hnx⟩ := HI.out.store (.slice a1 n1 c1) 0
                        have HI2 := hide (hnx (.slice a1 n1 c1) vt x2 hcc)
                        clear HI hnx hcc
                        have HI := HI2
                        clear HI2
                        generalize W19.setCell ⟨w.heap.size + 1 + 1, 0, none⟩ (.slice a1 n1 c1) = W20 at HI HSM ⊢
                        refine wpTill_ready (rs := [27]) (by kernel_rfl) (by simp) ?_
                        refine AllTill.consT (o := { dst := some 62, op := Op.nilCheck (Operand.tmp 37), type := 0, pos := "", after := #[], guard := none }) (by rfl) rfl (fun K hK => ?_) AllTill.nil
                        go_simp
                        refine hK.out _ _ (.inl (by kernel_rfl)) ?_
                        clear hK K
                        try simp only [Act.put, List.setIfInBounds_toArray, List.set_cons_zero, List.set_cons_succ]
                        refine wpTill_ready (rs := [28]) (by kernel_rfl) (by simp) ?_
                        refine AllTill.consT (o := { dst := some 63, op := Op.fieldAddr 36 (Operand.tmp 62) 1, type := 0, pos := "", after := #[], guard := none }) (by rfl) rfl (fun K hK => ?_) AllTill.nil
                        go_simp
                        refine hK.out _ _ (.inl (by kernel_rfl)) ?_
                        clear hK K
                        try simp only [Act.put, List.setIfInBounds_toArray, List.set_cons_zero, List.set_cons_succ]
                        refine wpTill_ready (rs := [29]) (by kernel_rfl) (by simp) ?_
                        refine AllTill.consT (o := { dst := none, op := Op.store 22 (Operand.tmp 63) (Operand.tmp 52), type := 0, pos := "", after := #[], guard := none }) (by rfl) rfl (fun K hK => ?_) AllTill.nil
                        have kc : W20.cell? ⟨w.heap.size + 1 + 1, 1, none⟩ = some vt := HI.out.xblk.cell 1
                        have kf : W20.frozen? ⟨w.heap.size + 1 + 1, 1, none⟩ = false := HI.out.xblk.frozen 1
                        go_simp
                        clear kc kf
                        refine hK.out _ _ (.inl (by kernel_rfl)) ?_
                        clear hK K
                        try simp only [Act.put, List.setIfInBounds_toArray, List.set_cons_zero, List.set_cons_succ]
                        have HSM2 := hide (Mp.set HSM.out HI.out.xblk 1 (.slice a2 n2 c2))
                        clear HSM
                        have HSM := HSM2
                        clear HSM2
                        obtain ⟨cc, hcc, _, hnx⟩ := HI.out.store (.slice a2 n2 c2) 1
                        have HI2 := hide (hnx (.slice a1 n1 c1) (.slice a2 n2 c2) x2 hcc)
                        clear HI hnx hcc
                        have HI := HI2
                        clear HI2
                        generalize W20.setCell ⟨w.heap.size + 1 + 1, 1, none⟩ (.slice a2 n2 c2) = W21 at HI HSM ⊢
                        refine wpTill_ready (rs := [30]) (by kernel_rfl) (by simp) ?_
                        refine AllTill.consT (o := { dst := some 64, op := Op.nilCheck (Operand.tmp 38), type := 0, pos := "", after := #[], guard := none }) (by rfl) rfl (fun K hK => ?_) AllTill.nil
                        go_simp
                        refine hK.out _ _ (.inl (by kernel_rfl)) ?_
                        clear hK K
                        try simp only [Act.put, List.setIfInBounds_toArray, List.set_cons_zero, List.set_cons_succ]
                        refine wpTill_ready (rs := [31]) (by kernel_rfl) (by simp) ?_
                        refine AllTill.consT (o := { dst := some 65, op := Op.fieldAddr 36 (Operand.tmp 64) 2, type := 0, pos := "", after := #[], guard := none }) (by rfl) rfl (fun K hK => ?_) AllTill.nil
                        go_simp
                        refine hK.out _ _ (.inl (by kernel_rfl)) ?_
                        clear hK K
                        try simp only [Act.put, List.setIfInBounds_toArray, List.set_cons_zero, List.set_cons_succ]
                        refine wpTill_ready (rs := [32]) (by kernel_rfl) (by simp) ?_
                        refine AllTill.consT (o := { dst := none, op := Op.store 28 (Operand.tmp 65) (Operand.tmp 59), type := 0, pos := "", after := #[], guard := none }) (by rfl) rfl (fun K hK => ?_) AllTill.nil
                        have kc : W21.cell? ⟨w.heap.size + 1 + 1, 2, none⟩ = some x2 := HI.out.xblk.cell 2
                        have kf : W21.frozen? ⟨w.heap.size + 1 + 1, 2, none⟩ = false := HI.out.xblk.frozen 2
                        go_simp
                        clear kc kf
                        refine hK.out _ _ (.inl (by kernel_rfl)) ?_
                        clear hK K
                        try simp only [Act.put, List.setIfInBounds_toArray, List.set_cons_zero, List.set_cons_succ]
                        have HSM2 := hide (Mp.set HSM.out HI.out.xblk 2 (.slice a3 n3 c3))
                        clear HSM
                        have HSM := HSM2
                        clear HSM2
                        obtain ⟨cc, hcc, _, hnx⟩ := HI.out.store (.slice a3 n3 c3) 2
                        have HI2 := hide (hnx (.slice a1 n1 c1) (.slice a2 n2 c2) (.slice a3 n3 c3) hcc)
                        clear HI hnx hcc
                        have HI := HI2
                        clear HI2
                        generalize W21.setCell ⟨w.heap.size + 1 + 1, 2, none⟩ (.slice a3 n3 c3) = W22 at HI HSM ⊢
                        refine wpTill_done (by kernel_rfl) ?_ _
                        go_wp2_with fail
                        go_meet
                        case rel => exact ⟨(.slice a1 n1 c1), (.slice a2 n2 c2), ws ++ [tg], setRow' row .all (.slice a3 n3 c3), fm, lm, HI.out, by simp [hlw], ⟨sm, HSM.out, HSMt.out⟩, hx⟩
                    exact AllTill.nil
                  exact AllTill.nil
                exact AllTill.nil
              exact AllTill.nil
            refine AllTill.consT (o := { dst := some 51, op := Op.buildSlice 22 1 #[(0, Operand.tmp 50)], type := 22, pos := "", after := #[], guard := none }) (by rfl) rfl (fun K hK => ?_) ?_
            · go_simp
              refine hK.out _ _ (.inr ((HI.out.alloc _).cells3)) ?_
              clear hK K
              try simp only [Act.put, List.setIfInBounds_toArray, List.set_cons_zero, List.set_cons_succ]
              have HP2 := hide (Pn.new HI.out (.string (str (lwS tg))) 9)
              have HQ1 := hide (HP1.out.alloc (.cells #[.string (str (lwS tg))] 9))
              clear HP1
              have HP1 := HQ1
              clear HQ1
              have HI2 := hide (HI.out.alloc (.cells #[.string (str (lwS tg))] 9))
              clear HI
              have HI := HI2
              clear HI2
              have HSM2 := hide (Mp.alloc' HSM.out (.cells #[.string (str (lwS tg))] 9))
              clear HSM
              have HSM := HSM2
              clear HSM2
              generalize W1.alloc (.cells #[.string (str (lwS tg))] 9) = W23 at HP2 HP1 HI HSM ⊢
              refine wpTill_ready (rs := [9, 22]) (by kernel_rfl) (by simp) ?_
              refine AllTill.consT (o := { dst := some 45, op := Op.call { callee := Callee.builtin Builtin.append, args := #[Operand.tmp 42, Operand.tmp 44], argTypes := #[22, 22] }, type := 22, pos := "", after := #[], guard := none }) (by rfl) rfl (fun K hK => ?_) ?_
              · refine step_append_one rfl _ _ 22 rfl 9 i9 _ 16 Yba.underlying22 hi9 hz9 hs9 hb9 rfl vw _ (by rfl) HI.out.ownW ⟨W0.heap.size, 0, none⟩ (.string (str tg)) (by rfl) HP1.out.cell rfl rfl (by simp [hlw, maxLen]; omega) (by simp [hlw]; omega) ?_
                intro v1 W24 hO hg hb
                have HQ2 := hide (HP2.out.appW hg hb.out)
                clear HP2
                have HP2 := HQ2
                clear HQ2
                have HSM2 := hide (Mp.grown HSM.out hg (own_cells HI.out.ownW))
                clear HSM
                have HSM := HSM2
                clear HSM2
                have HI2 := hide (HI.out.appW hO hg hb.out)
                clear HI HP1 hO hg hb
                have HI := HI2
                clear HI2
                refine hK.out _ _ (.inr HI.out.cells3) ?_
                clear hK K
                try simp only [Act.put, List.setIfInBounds_toArray, List.set_cons_zero, List.set_cons_succ]
                refine wpTill_ready (rs := [16, 22]) (by kernel_rfl) (by simp) ?_
                refine AllTill.consT (o := { dst := some 52, op := Op.call { callee := Callee.builtin Builtin.append, args := #[Operand.tmp 49, Operand.tmp 51], argTypes := #[22, 22] }, type := 22, pos := "", after := #[], guard := none }) (by rfl) rfl (fun K hK => ?_) ?_
                · refine step_append_one rfl _ _ 22 rfl 9 i9 _ 16 Yba.underlying22 hi9 hz9 hs9 hb9 rfl vt _ (by rfl) HI.out.ownT ⟨W1.heap.size, 0, none⟩ (.string (str (lwS tg))) (by rfl) HP2.out.cell rfl rfl (by simp [maxLen]; omega) (by simp; omega) ?_
                  intro v2 W25 hO hg hb
                  have HSM2 := hide (Mp.grown HSM.out hg (own_cells HI.out.ownT))
                  clear HSM
                  have HSM := HSM2
                  clear HSM2
                  have HI2 := hide (HI.out.appT hO hg hb.out)
                  clear HI HP2 hO hg hb
                  have HI := HI2
                  clear HI2
                  refine hK.out _ _ (.inr HI.out.cells3) ?_
                  clear hK K
                  try simp only [Act.put, List.setIfInBounds_toArray, List.set_cons_zero, List.set_cons_succ]
                  refine wpTill_ready (rs := [22]) (by kernel_rfl) (by simp) ?_
                  refine AllTill.consT (o := { dst := some 58, op := Op.buildSlice 28 1 #[(0, Operand.tmp 57)], type := 28, pos := "", after := #[], guard := none }) (by rfl) rfl (fun K hK => ?_) ?_
                  · go_simp
                    refine hK.out _ _ (.inr ((HI.out.alloc _).cells3)) ?_
                    clear hK K
                    try simp only [Act.put, List.setIfInBounds_toArray, List.set_cons_zero, List.set_cons_succ]
                    have HP3 := hide (Pn.new HI.out (.int .i64 (low.length : Nat)) 3)
                    have HI2 := hide (HI.out.alloc (.cells #[.int .i64 (low.length : Nat)] 3))
                    clear HI
                    have HI := HI2
                    clear HI2
                    have HSM2 := hide (Mp.alloc' HSM.out (.cells #[.int .i64 (low.length : Nat)] 3))
                    clear HSM
                    have HSM := HSM2
                    clear HSM2
                    generalize W25.alloc (.cells #[.int .i64 (low.length : Nat)] 3) = W26 at HP3 HI HSM ⊢
                    refine wpTill_ready (rs := [23]) (by kernel_rfl) (by simp) ?_
                    refine AllTill.consT (o := { dst := some 59, op := Op.call { callee := Callee.builtin Builtin.append, args := #[Operand.tmp 56, Operand.tmp 58], argTypes := #[28, 28] }, type := 28, pos := "", after := #[], guard := none }) (by rfl) rfl (fun K hK => ?_) ?_
                    · refine step_append_one rfl _ _ 28 rfl 3 i3 _ 8 Yba.underlying28 hi3 hz3 hs3 hb3 rfl x2 _ (by rfl) (HX2.out ▸ HI.out.fam.ownD .all) ⟨W25.heap.size, 0, none⟩ (.int .i64 (low.length : Nat)) (by rfl) HP3.out.cell rfl rfl (by simp [conOf, maxLen]; omega) (by simp [conOf]; omega) ?_
                      intro v3 W27 hO hg hb
                      have HSM2 := hide (Mp.grown HSM.out hg (own_cells (HX2.out ▸ HI.out.fam.ownD .all)))
                      clear HSM
                      have HSM := HSM2
                      clear HSM2
                      have HI2 := hide (HI.out.appAll low.length hO (HX2.out ▸ hg) (HX2.out ▸ hb.out))
                      clear HI HP3 hO hg hb
                      have HI := HI2
                      clear HI2
                      refine hK.out _ _ (.inr HI.out.cells3) ?_
                      clear hK K
                      try simp only [Act.put, List.setIfInBounds_toArray, List.set_cons_zero, List.set_cons_succ]
                      as_aux_lemma =>
                        obtain ⟨n1, a1, c1, rfl⟩ : ∃ n a c, v1 = .slice a n c := by obtain ⟨a, c, h⟩ := HI.out.ownW.form; exact ⟨_, a, c, h⟩
                        obtain ⟨n2, a2, c2, rfl⟩ : ∃ n a c, v2 = .slice a n c := by obtain ⟨a, c, h⟩ := HI.out.ownT.form; exact ⟨_, a, c, h⟩
                        obtain ⟨n3, a3, c3, rfl⟩ : ∃ n a c, v3 = .slice a n c := by obtain ⟨a, c, h⟩ := (HI.out.fam.own .all v3 (by simp [setRow'])).form; exact ⟨_, a, c, h⟩
                        refine wpTill_ready (rs := [24]) (by kernel_rfl) (by simp) ?_
                        refine AllTill.consT (o := { dst := some 60, op := Op.nilCheck (Operand.tmp 36), type := 0, pos := "", after := #[], guard := none }) (by rfl) rfl (fun K hK => ?_) AllTill.nil
                        go_simp
                        refine hK.out _ _ (.inr HI.out.cells3) ?_
                        clear hK K
                        try simp only [Act.put, List.setIfInBounds_toArray, List.set_cons_zero, List.set_cons_succ]
                        refine wpTill_ready (rs := [25]) (by kernel_rfl) (by simp) ?_
                        refine AllTill.consT (o := { dst := some 61, op := Op.fieldAddr 36 (Operand.tmp 60) 0, type := 0, pos := "", after := #[], guard := none }) (by rfl) rfl (fun K hK => ?_) AllTill.nil
                        go_simp
                        refine hK.out _ _ (.inr HI.out.cells3) ?_
                        clear hK K
                        try simp only [Act.put, List.setIfInBounds_toArray, List.set_cons_zero, List.set_cons_succ]
                        refine wpTill_ready (rs := [26]) (by kernel_rfl) (by simp) ?_
                        refine AllTill.consT (o := { dst := none, op := Op.store 22 (Operand.tmp 61) (Operand.tmp 45), type := 0, pos := "", after := #[], guard := none }) (by rfl) rfl (fun K hK => ?_) AllTill.nil
                        have kc : W27.cell? ⟨w.heap.size + 1 + 1, 0, none⟩ = some vw := HI.out.xblk.cell 0
                        have kf : W27.frozen? ⟨w.heap.size + 1 + 1, 0, none⟩ = false := HI.out.xblk.frozen 0
                        go_simp
                        clear kc kf
                        refine hK.out _ _ (.inl (by kernel_rfl)) ?_
                        clear hK K
                        try simp only [Act.put, List.setIfInBounds_toArray, List.set_cons_zero, List.set_cons_succ]
                        have HSM2 := hide (Mp.set HSM.out HI.out.xblk 0 (.slice a1 n1 c1))
                        clear HSM
                        have HSM := HSM2
                        clear HSM2
                        obtain ⟨cc, hcc, _, hnx⟩ := HI.out.store (.slice a1 n1 c1) 0
                        have HI2 := hide (hnx (.slice a1 n1 c1) vt x2 hcc)
                        clear HI hnx hcc
                        have HI := HI2
                        clear HI2
                        generalize W27.setCell ⟨w.heap.size + 1 + 1, 0, none⟩ (.slice a1 n1 c1) = W28 at HI HSM ⊢
                        refine wpTill_ready (rs := [27]) (by kernel_rfl) (by simp) ?_
                        refine AllTill.consT (o := { dst := some 62, op := Op.nilCheck (Operand.tmp 37), type := 0, pos := "", after := #[], guard := none }) (by rfl) rfl (fun K hK => ?_) AllTill.nil
                        go_simp
                        refine hK.out _ _ (.inl (by kernel_rfl)) ?_
                        clear hK K
                        try simp only [Act.put, List.setIfInBounds_toArray, List.set_cons_zero, List.set_cons_succ]
                        refine wpTill_ready (rs := [28]) (by kernel_rfl) (by simp) ?_
                        refine AllTill.consT (o := { dst := some 63, op := Op.fieldAddr 36 (Operand.tmp 62) 1, type := 0, pos := "", after := #[], guard := none }) (by rfl) rfl (fun K hK => ?_) AllTill.nil
                        go_simp
                        refine hK.out _ _ (.inl (by kernel_rfl)) ?_
                        clear hK K
                        try simp only [Act.put, List.setIfInBounds_toArray, List.set_cons_zero, List.set_cons_succ]
                        refine wpTill_ready (rs := [29]) (by kernel_rfl) (by simp) ?_
                        refine AllTill.consT (o := { dst := none, op := Op.store 22 (Operand.tmp 63) (Operand.tmp 52), type := 0, pos := "", after := #[], guard := none }) (by rfl) rfl (fun K hK => ?_) AllTill.nil
                        have kc : W28.cell? ⟨w.heap.size + 1 + 1, 1, none⟩ = some vt := HI.out.xblk.cell 1
                        have kf : W28.frozen? ⟨w.heap.size + 1 + 1, 1, none⟩ = false := HI.out.xblk.frozen 1
                        go_simp
                        clear kc kf
                        refine hK.out _ _ (.inl (by kernel_rfl)) ?_
                        clear hK K
                        try simp only [Act.put, List.setIfInBounds_toArray, List.set_cons_zero, List.set_cons_succ]
                        have HSM2 := hide (Mp.set HSM.out HI.out.xblk 1 (.slice a2 n2 c2))
                        clear HSM
                        have HSM := HSM2
                        clear HSM2
                        obtain ⟨cc, hcc, _, hnx⟩ := HI.out.store (.slice a2 n2 c2) 1
                        have HI2 := hide (hnx (.slice a1 n1 c1) (.slice a2 n2 c2) x2 hcc)
                        clear HI hnx hcc
                        have HI := HI2
                        clear HI2
                        generalize W28.setCell ⟨w.heap.size + 1 + 1, 1, none⟩ (.slice a2 n2 c2) = W29 at HI HSM ⊢
                        refine wpTill_ready (rs := [30]) (by kernel_rfl) (by simp) ?_
                        refine AllTill.consT (o := { dst := some 64, op := Op.nilCheck (Operand.tmp 38), type := 0, pos := "", after := #[], guard := none }) (by rfl) rfl (fun K hK => ?_) AllTill.nil
                        go_simp
                        refine hK.out _ _ (.inl (by kernel_rfl)) ?_
                        clear hK K
                        try simp only [Act.put, List.setIfInBounds_toArray, List.set_cons_zero, List.set_cons_succ]
                        refine wpTill_ready (rs := [31]) (by kernel_rfl) (by simp) ?_
                        refine AllTill.consT (o := { dst := some 65, op := Op.fieldAddr 36 (Operand.tmp 64) 2, type := 0, pos := "", after := #[], guard := none }) (by rfl) rfl (fun K hK => ?_) AllTill.nil
                        go_simp
                        refine hK.out _ _ (.inl (by kernel_rfl)) ?_
                        clear hK K
                        try simp only [Act.put, List.setIfInBounds_toArray, List.set_cons_zero, List.set_cons_succ]
                        refine wpTill_ready (rs := [32]) (by kernel_rfl) (by simp) ?_
                        refine AllTill.consT (o := { dst := none, op := Op.store 28 (Operand.tmp 65) (Operand.tmp 59), type := 0, pos := "", after := #[], guard := none }) (by rfl) rfl (fun K hK => ?_) AllTill.nil
                        have kc : W29.cell? ⟨w.heap.size + 1 + 1, 2, none⟩ = some x2 := HI.out.xblk.cell 2
                        have kf : W29.frozen? ⟨w.heap.size + 1 + 1, 2, none⟩ = false := HI.out.xblk.frozen 2
                        go_simp
                        clear kc kf
                        refine hK.out _ _ (.inl (by kernel_rfl)) ?_
                        clear hK K
                        try simp only [Act.put, List.setIfInBounds_toArray, List.set_cons_zero, List.set_cons_succ]
                        have HSM2 := hide (Mp.set HSM.out HI.out.xblk 2 (.slice a3 n3 c3))
                        clear HSM
                        have HSM := HSM2
                        clear HSM2
                        obtain ⟨cc, hcc, _, hnx⟩ := HI.out.store (.slice a3 n3 c3) 2
                        have HI2 := hide (hnx (.slice a1 n1 c1) (.slice a2 n2 c2) (.slice a3 n3 c3) hcc)
                        clear HI hnx hcc
                        have HI := HI2
                        clear HI2
                        generalize W29.setCell ⟨w.heap.size + 1 + 1, 2, none⟩ (.slice a3 n3 c3) = W30 at HI HSM ⊢
                        refine wpTill_done (by kernel_rfl) ?_ _
                        go_wp2_with fail
                        go_meet
                        case rel => exact ⟨(.slice a1 n1 c1), (.slice a2 n2 c2), ws ++ [tg], setRow' row .all (.slice a3 n3 c3), fm, lm, HI.out, by simp [hlw], ⟨sm, HSM.out, HSMt.out⟩, hx⟩
                    exact AllTill.nil
                  exact AllTill.nil
                refine AllTill.consT (o := { dst := some 58, op := Op.buildSlice 28 1 #[(0, Operand.tmp 57)], type := 28, pos := "", after := #[], guard := none }) (by rfl) rfl (fun K hK => ?_) ?_
                · go_simp
                  refine hK.out _ _ (.inr ((HI.out.alloc _).cells3)) ?_
                  clear hK K
                  try simp only [Act.put, List.setIfInBounds_toArray, List.set_cons_zero, List.set_cons_succ]
                  have HP3 := hide (Pn.new HI.out (.int .i64 (low.length : Nat)) 3)
                  have HQ2 := hide (HP2.out.alloc (.cells #[.int .i64 (low.length : Nat)] 3))
                  clear HP2
                  have HP2 := HQ2
                  clear HQ2
                  have HI2 := hide (HI.out.alloc (.cells #[.int .i64 (low.length : Nat)] 3))
                  clear HI
                  have HI := HI2
                  clear HI2
                  have HSM2 := hide (Mp.alloc' HSM.out (.cells #[.int .i64 (low.length : Nat)] 3))
                  clear HSM
                  have HSM := HSM2
                  clear HSM2
                  generalize W24.alloc (.cells #[.int .i64 (low.length : Nat)] 3) = W31 at HP3 HP2 HI HSM ⊢
                  refine wpTill_ready (rs := [16]) (by kernel_rfl) (by simp) ?_
                  refine AllTill.consT (o := { dst := some 52, op := Op.call { callee := Callee.builtin Builtin.append, args := #[Operand.tmp 49, Operand.tmp 51], argTypes := #[22, 22] }, type := 22, pos := "", after := #[], guard := none }) (by rfl) rfl (fun K hK => ?_) ?_
                  · refine step_append_one rfl _ _ 22 rfl 9 i9 _ 16 Yba.underlying22 hi9 hz9 hs9 hb9 rfl vt _ (by rfl) HI.out.ownT ⟨W1.heap.size, 0, none⟩ (.string (str (lwS tg))) (by rfl) HP2.out.cell rfl rfl (by simp [maxLen]; omega) (by simp; omega) ?_
                    intro v2 W32 hO hg hb
                    have HQ3 := hide (HP3.out.appT hg hb.out)
                    clear HP3
                    have HP3 := HQ3
                    clear HQ3
                    have HSM2 := hide (Mp.grown HSM.out hg (own_cells HI.out.ownT))
                    clear HSM
                    have HSM := HSM2
                    clear HSM2
                    have HI2 := hide (HI.out.appT hO hg hb.out)
                    clear HI HP2 hO hg hb
                    have HI := HI2
                    clear HI2
                    refine hK.out _ _ (.inr HI.out.cells3) ?_
                    clear hK K
                    try simp only [Act.put, List.setIfInBounds_toArray, List.set_cons_zero, List.set_cons_succ]
                    refine wpTill_ready (rs := [23]) (by kernel_rfl) (by simp) ?_
                    refine AllTill.consT (o := { dst := some 59, op := Op.call { callee := Callee.builtin Builtin.append, args := #[Operand.tmp 56, Operand.tmp 58], argTypes := #[28, 28] }, type := 28, pos := "", after := #[], guard := none }) (by rfl) rfl (fun K hK => ?_) ?_
                    · refine step_append_one rfl _ _ 28 rfl 3 i3 _ 8 Yba.underlying28 hi3 hz3 hs3 hb3 rfl x2 _ (by rfl) (HX2.out ▸ HI.out.fam.ownD .all) ⟨W24.heap.size, 0, none⟩ (.int .i64 (low.length : Nat)) (by rfl) HP3.out.cell rfl rfl (by simp [conOf, maxLen]; omega) (by simp [conOf]; omega) ?_
                      intro v3 W33 hO hg hb
                      have HSM2 := hide (Mp.grown HSM.out hg (own_cells (HX2.out ▸ HI.out.fam.ownD .all)))
                      clear HSM
                      have HSM := HSM2
                      clear HSM2
                      have HI2 := hide (HI.out.appAll low.length hO (HX2.out ▸ hg) (HX2.out ▸ hb.out))
                      clear HI HP3 hO hg hb
                      have HI := HI2
                      clear HI2
                      refine hK.out _ _ (.inr HI.out.cells3) ?_
                      clear hK K
                      try simp only [Act.put, List.setIfInBounds_toArray, List.set_cons_zero, List.set_cons_succ]
                      as_aux_lemma =>
                        obtain ⟨n1, a1, c1, rfl⟩ : ∃ n a c, v1 = .slice a n c := by obtain ⟨a, c, h⟩ := HI.out.ownW.form; exact ⟨_, a, c, h⟩
                        obtain ⟨n2, a2, c2, rfl⟩ : ∃ n a c, v2 = .slice a n c := by obtain ⟨a, c, h⟩ := HI.out.ownT.form; exact ⟨_, a, c, h⟩
                        obtain ⟨n3, a3, c3, rfl⟩ : ∃ n a c, v3 = .slice a n c := by obtain ⟨a, c, h⟩ := (HI.out.fam.own .all v3 (by simp [setRow'])).form; exact ⟨_, a, c, h⟩
                        refine wpTill_ready (rs := [24]) (by kernel_rfl) (by simp) ?_
                        refine AllTill.consT (o := { dst := some 60, op := Op.nilCheck (Operand.tmp 36), type := 0, pos := "", after := #[], guard := none }) (by rfl) rfl (fun K hK => ?_) AllTill.nil
                        go_simp
                        refine hK.out _ _ (.inr HI.out.cells3) ?_
                        clear hK K
                        try simp only [Act.put, List.setIfInBounds_toArray, List.set_cons_zero, List.set_cons_succ]
                        refine wpTill_ready (rs := [25]) (by kernel_rfl) (by simp) ?_
                        refine AllTill.consT (o := { dst := some 61, op := Op.fieldAddr 36 (Operand.tmp 60) 0, type := 0, pos := "", after := #[], guard := none }) (by rfl) rfl (fun K hK => ?_) AllTill.nil
                        go_simp
                        refine hK.out _ _ (.inr HI.out.cells3) ?_
                        clear hK K
                        try simp only [Act.put, List.setIfInBounds_toArray, List.set_cons_zero, List.set_cons_succ]
                        refine wpTill_ready (rs := [26]) (by kernel_rfl) (by simp) ?_
                        refine AllTill.consT (o := { dst := none, op := Op.store 22 (Operand.tmp 61) (Operand.tmp 45), type := 0, pos := "", after := #[], guard := none }) (by rfl) rfl (fun K hK => ?_) AllTill.nil
                        have kc : W33.cell? ⟨w.heap.size + 1 + 1, 0, none⟩ = some vw := HI.out.xblk.cell 0
                        have kf : W33.frozen? ⟨w.heap.size + 1 + 1, 0, none⟩ = false := HI.out.xblk.frozen 0
                        go_simp
                        clear kc kf
                        refine hK.out _ _ (.inl (by kernel_rfl)) ?_
                        clear hK K
                        try simp only [Act.put, List.setIfInBounds_toArray, List.set_cons_zero, List.set_cons_succ]
                        have HSM2 := hide (Mp.set HSM.out HI.out.xblk 0 (.slice a1 n1 c1))
                        clear HSM
                        have HSM := HSM2
                        clear HSM2
                        obtain ⟨cc, hcc, _, hnx⟩ := HI.out.store (.slice a1 n1 c1) 0
                        have HI2 := hide (hnx (.slice a1 n1 c1) vt x2 hcc)
                        clear HI hnx hcc
                        have HI := HI2
                        clear HI2
                        generalize W33.setCell ⟨w.heap.size + 1 + 1, 0, none⟩ (.slice a1 n1 c1) = W34 at HI HSM ⊢
                        refine wpTill_ready (rs := [27]) (by kernel_rfl) (by simp) ?_
                        refine AllTill.consT (o := { dst := some 62, op := Op.nilCheck (Operand.tmp 37), type := 0, pos := "", after := #[], guard := none }) (by rfl) rfl (fun K hK => ?_) AllTill.nil
                        go_simp
                        refine hK.out _ _ (.inl (by kernel_rfl)) ?_
                        clear hK K
                        try simp only [Act.put, List.setIfInBounds_toArray, List.set_cons_zero, List.set_cons_succ]
                        refine wpTill_ready (rs := [28]) (by kernel_rfl) (by simp) ?_
                        refine AllTill.consT (o := { dst := some 63, op := Op.fieldAddr 36 (Operand.tmp 62) 1, type := 0, pos := "", after := #[], guard := none }) (by rfl) rfl (fun K hK => ?_) AllTill.nil
                        go_simp
                        refine hK.out _ _ (.inl (by kernel_rfl)) ?_
                        clear hK K
                        try simp only [Act.put, List.setIfInBounds_toArray, List.set_cons_zero, List.set_cons_succ]
                        refine wpTill_ready (rs := [29]) (by kernel_rfl) (by simp) ?_
                        refine AllTill.consT (o := { dst := none, op := Op.store 22 (Operand.tmp 63) (Operand.tmp 52), type := 0, pos := "", after := #[], guard := none }) (by rfl) rfl (fun K hK => ?_) AllTill.nil
                        have kc : W34.cell? ⟨w.heap.size + 1 + 1, 1, none⟩ = some vt := HI.out.xblk.cell 1
                        have kf : W34.frozen? ⟨w.heap.size + 1 + 1, 1, none⟩ = false := HI.out.xblk.frozen 1
                        go_simp
                        clear kc kf
                        refine hK.out _ _ (.inl (by kernel_rfl)) ?_
                        clear hK K
                        try simp only [Act.put, List.setIfInBounds_toArray, List.set_cons_zero, List.set_cons_succ]
                        have HSM2 := hide (Mp.set HSM.out HI.out.xblk 1 (.slice a2 n2 c2))
                        clear HSM
                        have HSM := HSM2
                        clear HSM2
                        obtain ⟨cc, hcc, _, hnx⟩ := HI.out.store (.slice a2 n2 c2) 1
                        have HI2 := hide (hnx (.slice a1 n1 c1) (.slice a2 n2 c2) x2 hcc)
                        clear HI hnx hcc
                        have HI := HI2
                        clear HI2
                        generalize W34.setCell ⟨w.heap.size + 1 + 1, 1, none⟩ (.slice a2 n2 c2) = W35 at HI HSM ⊢
                        refine wpTill_ready (rs := [30]) (by kernel_rfl) (by simp) ?_
                        refine AllTill.consT (o := { dst := some 64, op := Op.nilCheck (Operand.tmp 38), type := 0, pos := "", after := #[], guard := none }) (by rfl) rfl (fun K hK => ?_) AllTill.nil
                        go_simp
                        refine hK.out _ _ (.inl (by kernel_rfl)) ?_
                        clear hK K
                        try simp only [Act.put, List.setIfInBounds_toArray, List.set_cons_zero, List.set_cons_succ]
                        refine wpTill_ready (rs := [31]) (by kernel_rfl) (by simp) ?_
                        refine AllTill.consT (o := { dst := some 65, op := Op.fieldAddr 36 (Operand.tmp 64) 2, type := 0, pos := "", after := #[], guard := none }) (by rfl) rfl (fun K hK => ?_) AllTill.nil
                        go_simp
                        refine hK.out _ _ (.inl (by kernel_rfl)) ?_
                        clear hK K
                        try simp only [Act.put, List.setIfInBounds_toArray, List.set_cons_zero, List.set_cons_succ]
                        refine wpTill_ready (rs := [32]) (by kernel_rfl) (by simp) ?_
                        refine AllTill.consT (o := { dst := none, op := Op.store 28 (Operand.tmp 65) (Operand.tmp 59), type := 0, pos := "", after := #[], guard := none }) (by rfl) rfl (fun K hK => ?_) AllTill.nil
                        have kc : W35.cell? ⟨w.heap.size + 1 + 1, 2, none⟩ = some x2 := HI.out.xblk.cell 2
                        have kf : W35.frozen? ⟨w.heap.size + 1 + 1, 2, none⟩ = false := HI.out.xblk.frozen 2
                        go_simp
                        clear kc kf
                        refine hK.out _ _ (.inl (by kernel_rfl)) ?_
                        clear hK K
                        try simp only [Act.put, List.setIfInBounds_toArray, List.set_cons_zero, List.set_cons_succ]
                        have HSM2 := hide (Mp.set HSM.out HI.out.xblk 2 (.slice a3 n3 c3))
                        clear HSM
                        have HSM := HSM2
                        clear HSM2
                        obtain ⟨cc, hcc, _, hnx⟩ := HI.out.store (.slice a3 n3 c3) 2
                        have HI2 := hide (hnx (.slice a1 n1 c1) (.slice a2 n2 c2) (.slice a3 n3 c3) hcc)
                        clear HI hnx hcc
                        have HI := HI2
                        clear HI2
                        generalize W35.setCell ⟨w.heap.size + 1 + 1, 2, none⟩ (.slice a3 n3 c3) = W36 at HI HSM ⊢
                        refine wpTill_done (by kernel_rfl) ?_ _
                        go_wp2_with fail
                        go_meet
                        case rel => exact ⟨(.slice a1 n1 c1), (.slice a2 n2 c2), ws ++ [tg], setRow' row .all (.slice a3 n3 c3), fm, lm, HI.out, by simp [hlw], ⟨sm, HSM.out, HSMt.out⟩, hx⟩
                    exact AllTill.nil
                  exact AllTill.nil
                exact AllTill.nil
              refine AllTill.consT (o := { dst := some 58, op := Op.buildSlice 28 1 #[(0, Operand.tmp 57)], type := 28, pos := "", after := #[], guard := none }) (by rfl) rfl (fun K hK => ?_) ?_
              · go_simp
                refine hK.out _ _ (.inr ((HI.out.alloc _).cells3)) ?_
                clear hK K
                try simp only [Act.put, List.setIfInBounds_toArray, List.set_cons_zero, List.set_cons_succ]
                have HP3 := hide (Pn.new HI.out (.int .i64 (low.length : Nat)) 3)
                have HQ1 := hide (HP1.out.alloc (.cells #[.int .i64 (low.length : Nat)] 3))
                clear HP1
                have HP1 := HQ1
                clear HQ1
                have HQ2 := hide (HP2.out.alloc (.cells #[.int .i64 (low.length : Nat)] 3))
                clear HP2
                have HP2 := HQ2
                clear HQ2
                have HI2 := hide (HI.out.alloc (.cells #[.int .i64 (low.length : Nat)] 3))
                clear HI
                have HI := HI2
                clear HI2
                have HSM2 := hide (Mp.alloc' HSM.out (.cells #[.int .i64 (low.length : Nat)] 3))
                clear HSM
                have HSM := HSM2
                clear HSM2
                generalize W23.alloc (.cells #[.int .i64 (low.length : Nat)] 3) = W37 at HP3 HP1 HP2 HI HSM ⊢
                refine wpTill_ready (rs := [9]) (by kernel_rfl) (by simp) ?_
                refine AllTill.consT (o := { dst := some 45, op := Op.call { callee := Callee.builtin Builtin.append, args := #[Operand.tmp 42, Operand.tmp 44], argTypes := #[22, 22] }, type := 22, pos := "", after := #[], guard := none }) (by rfl) rfl (fun K hK => ?_) ?_
                · refine step_append_one rfl _ _ 22 rfl 9 i9 _ 16 Yba.underlying22 hi9 hz9 hs9 hb9 rfl vw _ (by rfl) HI.out.ownW ⟨W0.heap.size, 0, none⟩ (.string (str tg)) (by rfl) HP1.out.cell rfl rfl (by simp [hlw, maxLen]; omega) (by simp [hlw]; omega) ?_
                  intro v1 W38 hO hg hb
                  have HQ2 := hide (HP2.out.appW hg hb.out)
                  clear HP2
                  have HP2 := HQ2
                  clear HQ2
                  have HQ3 := hide (HP3.out.appW hg hb.out)
                  clear HP3
                  have HP3 := HQ3
                  clear HQ3
                  have HSM2 := hide (Mp.grown HSM.out hg (own_cells HI.out.ownW))
                  clear HSM
                  have HSM := HSM2
                  clear HSM2
                  have HI2 := hide (HI.out.appW hO hg hb.out)
                  clear HI HP1 hO hg hb
                  have HI := HI2
                  clear HI2
                  refine hK.out _ _ (.inr HI.out.cells3) ?_
                  clear hK K
                  try simp only [Act.put, List.setIfInBounds_toArray, List.set_cons_zero, List.set_cons_succ]
                  refine wpTill_ready (rs := [16]) (by kernel_rfl) (by simp) ?_
                  refine AllTill.consT (o := { dst := some 52, op := Op.call { callee := Callee.builtin Builtin.append, args := #[Operand.tmp 49, Operand.tmp 51], argTypes := #[22, 22] }, type := 22, pos := "", after := #[], guard := none }) (by rfl) rfl (fun K hK => ?_) ?_
                  · refine step_append_one rfl _ _ 22 rfl 9 i9 _ 16 Yba.underlying22 hi9 hz9 hs9 hb9 rfl vt _ (by rfl) HI.out.ownT ⟨W1.heap.size, 0, none⟩ (.string (str (lwS tg))) (by rfl) HP2.out.cell rfl rfl (by simp [maxLen]; omega) (by simp; omega) ?_
                    intro v2 W39 hO hg hb
                    have HQ3 := hide (HP3.out.appT hg hb.out)
                    clear HP3
                    have HP3 := HQ3
                    clear HQ3
                    have HSM2 := hide (Mp.grown HSM.out hg (own_cells HI.out.ownT))
                    clear HSM
                    have HSM := HSM2
                    clear HSM2
                    have HI2 := hide (HI.out.appT hO hg hb.out)
                    clear HI HP2 hO hg hb
                    have HI := HI2
                    clear HI2
                    refine hK.out _ _ (.inr HI.out.cells3) ?_
                    clear hK K
                    try simp only [Act.put, List.setIfInBounds_toArray, List.set_cons_zero, List.set_cons_succ]
                    refine wpTill_ready (rs := [23]) (by kernel_rfl) (by simp) ?_
                    refine AllTill.consT (o := { dst := some 59, op := Op.call { callee := Callee.builtin Builtin.append, args := #[Operand.tmp 56, Operand.tmp 58], argTypes := #[28, 28] }, type := 28, pos := "", after := #[], guard := none }) (by rfl) rfl (fun K hK => ?_) ?_
                    · refine step_append_one rfl _ _ 28 rfl 3 i3 _ 8 Yba.underlying28 hi3 hz3 hs3 hb3 rfl x2 _ (by rfl) (HX2.out ▸ HI.out.fam.ownD .all) ⟨W23.heap.size, 0, none⟩ (.int .i64 (low.length : Nat)) (by rfl) HP3.out.cell rfl rfl (by simp [conOf, maxLen]; omega) (by simp [conOf]; omega) ?_
                      intro v3 W40 hO hg hb
                      have HSM2 := hide (Mp.grown HSM.out hg (own_cells (HX2.out ▸ HI.out.fam.ownD .all)))
                      clear HSM
                      have HSM := HSM2
                      clear HSM2
                      have HI2 := hide (HI.out.appAll low.length hO (HX2.out ▸ hg) (HX2.out ▸ hb.out))
                      clear HI HP3 hO hg hb
                      have HI := HI2
                      clear HI2
                      refine hK.out _ _ (.inr HI.out.cells3) ?_
                      clear hK K
                      try simp only [Act.put, List.setIfInBounds_toArray, List.set_cons_zero, List.set_cons_succ]
                      as_aux_lemma =>
                        obtain ⟨n1, a1, c1, rfl⟩ : ∃ n a c, v1 = .slice a n c := by obtain ⟨a, c, h⟩ := HI.out.ownW.form; exact ⟨_, a, c, h⟩
                        obtain ⟨n2, a2, c2, rfl⟩ : ∃ n a c, v2 = .slice a n c := by obtain ⟨a, c, h⟩ := HI.out.ownT.form; exact ⟨_, a, c, h⟩
                        obtain ⟨n3, a3, c3, rfl⟩ : ∃ n a c, v3 = .slice a n c := by obtain ⟨a, c, h⟩ := (HI.out.fam.own .all v3 (by simp [setRow'])).form; exact ⟨_, a, c, h⟩
                        refine wpTill_ready (rs := [24]) (by kernel_rfl) (by simp) ?_
                        refine AllTill.consT (o := { dst := some 60, op := Op.nilCheck (Operand.tmp 36), type := 0, pos := "", after := #[], guard := none }) (by rfl) rfl (fun K hK => ?_) AllTill.nil
                        go_simp
                        refine hK.out _ _ (.inr HI.out.cells3) ?_
                        clear hK K
                        try simp only [Act.put, List.setIfInBounds_toArray, List.set_cons_zero, List.set_cons_succ]
                        refine wpTill_ready (rs := [25]) (by kernel_rfl) (by simp) ?_
                        refine AllTill.consT (o := { dst := some 61, op := Op.fieldAddr 36 (Operand.tmp 60) 0, type := 0, pos := "", after := #[], guard := none }) (by rfl) rfl (fun K hK => ?_) AllTill.nil
                        go_simp
                        refine hK.out _ _ (.inr HI.out.cells3) ?_
                        clear hK K
                        try simp only [Act.put, List.setIfInBounds_toArray, List.set_cons_zero, List.set_cons_succ]
                        refine wpTill_ready (rs := [26]) (by kernel_rfl) (by simp) ?_
                        refine AllTill.consT (o := { dst := none, op := Op.store 22 (Operand.tmp 61) (Operand.tmp 45), type := 0, pos := "", after := #[], guard := none }) (by rfl) rfl (fun K hK => ?_) AllTill.nil
                        have kc : W40.cell? ⟨w.heap.size + 1 + 1, 0, none⟩ = some vw := HI.out.xblk.cell 0
                        have kf : W40.frozen? ⟨w.heap.size + 1 + 1, 0, none⟩ = false := HI.out.xblk.frozen 0
                        go_simp
                        clear kc kf
                        refine hK.out _ _ (.inl (by kernel_rfl)) ?_
                        clear hK K
                        try simp only [Act.put, List.setIfInBounds_toArray, List.set_cons_zero, List.set_cons_succ]
                        have HSM2 := hide (Mp.set HSM.out HI.out.xblk 0 (.slice a1 n1 c1))
                        clear HSM
                        have HSM := HSM2
                        clear HSM2
                        obtain ⟨cc, hcc, _, hnx⟩ := HI.out.store (.slice a1 n1 c1) 0
                        have HI2 := hide (hnx (.slice a1 n1 c1) vt x2 hcc)
                        clear HI hnx hcc
                        have HI := HI2
                        clear HI2
                        generalize W40.setCell ⟨w.heap.size + 1 + 1, 0, none⟩ (.slice a1 n1 c1) = W41 at HI HSM ⊢
                        refine wpTill_ready (rs := [27]) (by kernel_rfl) (by simp) ?_
                        refine AllTill.consT (o := { dst := some 62, op := Op.nilCheck (Operand.tmp 37), type := 0, pos := "", after := #[], guard := none }) (by rfl) rfl (fun K hK => ?_) AllTill.nil
                        go_simp
                        refine hK.out _ _ (.inl (by kernel_rfl)) ?_
                        clear hK K
                        try simp only [Act.put, List.setIfInBounds_toArray, List.set_cons_zero, List.set_cons_succ]
                        refine wpTill_ready (rs := [28]) (by kernel_rfl) (by simp) ?_
                        refine AllTill.consT (o := { dst := some 63, op := Op.fieldAddr 36 (Operand.tmp 62) 1, type := 0, pos := "", after := #[], guard := none }) (by rfl) rfl (fun K hK => ?_) AllTill.nil
                        go_simp
                        refine hK.out _ _ (.inl (by kernel_rfl)) ?_
                        clear hK K
                        try simp only [Act.put, List.setIfInBounds_toArray, List.set_cons_zero, List.set_cons_succ]
                        refine wpTill_ready (rs := [29]) (by kernel_rfl) (by simp) ?_
                        refine AllTill.consT (o := { dst := none, op := Op.store 22 (Operand.tmp 63) (Operand.tmp 52), type := 0, pos := "", after := #[], guard := none }) (by rfl) rfl (fun K hK => ?_) AllTill.nil
                        have kc : W41.cell? ⟨w.heap.size + 1 + 1, 1, none⟩ = some vt := HI.out.xblk.cell 1
                        have kf : W41.frozen? ⟨w.heap.size + 1 + 1, 1, none⟩ = false := HI.out.xblk.frozen 1
                        go_simp
                        clear kc kf
                        refine hK.out _ _ (.inl (by kernel_rfl)) ?_
                        clear hK K
                        try simp only [Act.put, List.setIfInBounds_toArray, List.set_cons_zero, List.set_cons_succ]
                        have HSM2 := hide (Mp.set HSM.out HI.out.xblk 1 (.slice a2 n2 c2))
                        clear HSM
                        have HSM := HSM2
                        clear HSM2
                        obtain ⟨cc, hcc, _, hnx⟩ := HI.out.store (.slice a2 n2 c2) 1
                        have HI2 := hide (hnx (.slice a1 n1 c1) (.slice a2 n2 c2) x2 hcc)
                        clear HI hnx hcc
                        have HI := HI2
                        clear HI2
                        generalize W41.setCell ⟨w.heap.size + 1 + 1, 1, none⟩ (.slice a2 n2 c2) = W42 at HI HSM ⊢
                        refine wpTill_ready (rs := [30]) (by kernel_rfl) (by simp) ?_
                        refine AllTill.consT (o := { dst := some 64, op := Op.nilCheck (Operand.tmp 38), type := 0, pos := "", after := #[], guard := none }) (by rfl) rfl (fun K hK => ?_) AllTill.nil
                        go_simp
                        refine hK.out _ _ (.inl (by kernel_rfl)) ?_
                        clear hK K
                        try simp only [Act.put, List.setIfInBounds_toArray, List.set_cons_zero, List.set_cons_succ]
                        refine wpTill_ready (rs := [31]) (by kernel_rfl) (by simp) ?_
                        refine AllTill.consT (o := { dst := some 65, op := Op.fieldAddr 36 (Operand.tmp 64) 2, type := 0, pos := "", after := #[], guard := none }) (by rfl) rfl (fun K hK => ?_) AllTill.nil
                        go_simp
                        refine hK.out _ _ (.inl (by kernel_rfl)) ?_
                        clear hK K
                        try simp only [Act.put, List.setIfInBounds_toArray, List.set_cons_zero, List.set_cons_succ]
                        refine wpTill_ready (rs := [32]) (by kernel_rfl) (by simp) ?_
                        refine AllTill.consT (o := { dst := none, op := Op.store 28 (Operand.tmp 65) (Operand.tmp 59), type := 0, pos := "", after := #[], guard := none }) (by rfl) rfl (fun K hK => ?_) AllTill.nil
                        have kc : W42.cell? ⟨w.heap.size + 1 + 1, 2, none⟩ = some x2 := HI.out.xblk.cell 2
                        have kf : W42.frozen? ⟨w.heap.size + 1 + 1, 2, none⟩ = false := HI.out.xblk.frozen 2
                        go_simp
                        clear kc kf
                        refine hK.out _ _ (.inl (by kernel_rfl)) ?_
                        clear hK K
                        try simp only [Act.put, List.setIfInBounds_toArray, List.set_cons_zero, List.set_cons_succ]
                        have HSM2 := hide (Mp.set HSM.out HI.out.xblk 2 (.slice a3 n3 c3))
                        clear HSM
                        have HSM := HSM2
                        clear HSM2
                        obtain ⟨cc, hcc, _, hnx⟩ := HI.out.store (.slice a3 n3 c3) 2
                        have HI2 := hide (hnx (.slice a1 n1 c1) (.slice a2 n2 c2) (.slice a3 n3 c3) hcc)
                        clear HI hnx hcc
                        have HI := HI2
                        clear HI2
                        generalize W42.setCell ⟨w.heap.size + 1 + 1, 2, none⟩ (.slice a3 n3 c3) = W43 at HI HSM ⊢
                        refine wpTill_done (by kernel_rfl) ?_ _
                        go_wp2_with fail
                        go_meet
                        case rel => exact ⟨(.slice a1 n1 c1), (.slice a2 n2 c2), ws ++ [tg], setRow' row .all (.slice a3 n3 c3), fm, lm, HI.out, by simp [hlw], ⟨sm, HSM.out, HSMt.out⟩, hx⟩
                    exact AllTill.nil
                  exact AllTill.nil
                exact AllTill.nil
              exact AllTill.nil
            refine AllTill.consT (o := { dst := some 58, op := Op.buildSlice 28 1 #[(0, Operand.tmp 57)], type := 28, pos := "", after := #[], guard := none }) (by rfl) rfl (fun K hK => ?_) ?_
            · go_simp
              refine hK.out _ _ (.inr ((HI.out.alloc _).cells3)) ?_
              clear hK K
              try simp only [Act.put, List.setIfInBounds_toArray, List.set_cons_zero, List.set_cons_succ]
              have HP3 := hide (Pn.new HI.out (.int .i64 (low.length : Nat)) 3)
              have HQ1 := hide (HP1.out.alloc (.cells #[.int .i64 (low.length : Nat)] 3))
              clear HP1
              have HP1 := HQ1
              clear HQ1
              have HI2 := hide (HI.out.alloc (.cells #[.int .i64 (low.length : Nat)] 3))
              clear HI
              have HI := HI2
              clear HI2
              have HSM2 := hide (Mp.alloc' HSM.out (.cells #[.int .i64 (low.length : Nat)] 3))
              clear HSM
              have HSM := HSM2
              clear HSM2
              generalize W1.alloc (.cells #[.int .i64 (low.length : Nat)] 3) = W44 at HP3 HP1 HI HSM ⊢
              refine wpTill_ready (rs := [9, 15]) (by kernel_rfl) (by simp) ?_
              refine AllTill.consT (o := { dst := some 45, op := Op.call { callee := Callee.builtin Builtin.append, args := #[Operand.tmp 42, Operand.tmp 44], argTypes := #[22, 22] }, type := 22, pos := "", after := #[], guard := none }) (by rfl) rfl (fun K hK => ?_) ?_
              · refine step_append_one rfl _ _ 22 rfl 9 i9 _ 16 Yba.underlying22 hi9 hz9 hs9 hb9 rfl vw _ (by rfl) HI.out.ownW ⟨W0.heap.size, 0, none⟩ (.string (str tg)) (by rfl) HP1.out.cell rfl rfl (by simp [hlw, maxLen]; omega) (by simp [hlw]; omega) ?_
                intro v1 W45 hO hg hb
                have HQ3 := hide (HP3.out.appW hg hb.out)
                clear HP3
                have HP3 := HQ3
                clear HQ3
                have HSM2 := hide (Mp.grown HSM.out hg (own_cells HI.out.ownW))
                clear HSM
                have HSM := HSM2
                clear HSM2
                have HI2 := hide (HI.out.appW hO hg hb.out)
                clear HI HP1 hO hg hb
                have HI := HI2
                clear HI2
                refine hK.out _ _ (.inr HI.out.cells3) ?_
                clear hK K
                try simp only [Act.put, List.setIfInBounds_toArray, List.set_cons_zero, List.set_cons_succ]
                refine wpTill_ready (rs := [15]) (by kernel_rfl) (by simp) ?_
                refine AllTill.consT (o := { dst := some 51, op := Op.buildSlice 22 1 #[(0, Operand.tmp 50)], type := 22, pos := "", after := #[], guard := none }) (by rfl) rfl (fun K hK => ?_) ?_
                · go_simp
                  refine hK.out _ _ (.inr ((HI.out.alloc _).cells3)) ?_
                  clear hK K
                  try simp only [Act.put, List.setIfInBounds_toArray, List.set_cons_zero, List.set_cons_succ]
                  have HP2 := hide (Pn.new HI.out (.string (str (lwS tg))) 9)
                  have HQ3 := hide (HP3.out.alloc (.cells #[.string (str (lwS tg))] 9))
                  clear HP3
                  have HP3 := HQ3
                  clear HQ3
                  have HI2 := hide (HI.out.alloc (.cells #[.string (str (lwS tg))] 9))
                  clear HI
                  have HI := HI2
                  clear HI2
                  have HSM2 := hide (Mp.alloc' HSM.out (.cells #[.string (str (lwS tg))] 9))
                  clear HSM
                  have HSM := HSM2
                  clear HSM2
                  generalize W45.alloc (.cells #[.string (str (lwS tg))] 9) = W46 at HP2 HP3 HI HSM ⊢
                  refine wpTill_ready (rs := [16]) (by kernel_rfl) (by simp) ?_
                  refine AllTill.consT (o := { dst := some 52, op := Op.call { callee := Callee.builtin Builtin.append, args := #[Operand.tmp 49, Operand.tmp 51], argTypes := #[22, 22] }, type := 22, pos := "", after := #[], guard := none }) (by rfl) rfl (fun K hK => ?_) ?_
                  · refine step_append_one rfl _ _ 22 rfl 9 i9 _ 16 Yba.underlying22 hi9 hz9 hs9 hb9 rfl vt _ (by rfl) HI.out.ownT ⟨W45.heap.size, 0, none⟩ (.string (str (lwS tg))) (by rfl) HP2.out.cell rfl rfl (by simp [maxLen]; omega) (by simp; omega) ?_
                    intro v2 W47 hO hg hb
                    have HQ3 := hide (HP3.out.appT hg hb.out)
                    clear HP3
                    have HP3 := HQ3
                    clear HQ3
                    have HSM2 := hide (Mp.grown HSM.out hg (own_cells HI.out.ownT))
                    clear HSM
                    have HSM := HSM2
                    clear HSM2
                    have HI2 := hide (HI.out.appT hO hg hb.out)
                    clear HI HP2 hO hg hb
                    have HI := HI2
                    clear HI2
                    refine hK.out _ _ (.inr HI.out.cells3) ?_
                    clear hK K
                    try simp only [Act.put, List.setIfInBounds_toArray, List.set_cons_zero, List.set_cons_succ]
                    refine wpTill_ready (rs := [23]) (by kernel_rfl) (by simp) ?_
                    refine AllTill.consT (o := { dst := some 59, op := Op.call { callee := Callee.builtin Builtin.append, args := #[Operand.tmp 56, Operand.tmp 58], argTypes := #[28, 28] }, type := 28, pos := "", after := #[], guard := none }) (by rfl) rfl (fun K hK => ?_) ?_
                    · refine step_append_one rfl _ _ 28 rfl 3 i3 _ 8 Yba.underlying28 hi3 hz3 hs3 hb3 rfl x2 _ (by rfl) (HX2.out ▸ HI.out.fam.ownD .all) ⟨W1.heap.size, 0, none⟩ (.int .i64 (low.length : Nat)) (by rfl) HP3.out.cell rfl rfl (by simp [conOf, maxLen]; omega) (by simp [conOf]; omega) ?_
                      intro v3 W48 hO hg hb
                      have HSM2 := hide (Mp.grown HSM.out hg (own_cells (HX2.out ▸ HI.out.fam.ownD .all)))
                      clear HSM
                      have HSM := HSM2
                      clear HSM2
                      have HI2 := hide (HI.out.appAll low.length hO (HX2.out ▸ hg) (HX2.out ▸ hb.out))
                      clear HI HP3 hO hg hb
                      have HI := HI2
                      clear HI2
                      refine hK.out _ _ (.inr HI.out.cells3) ?_
                      clear hK K
                      try simp only [Act.put, List.setIfInBounds_toArray, List.set_cons_zero, List.set_cons_succ]
                      as_aux_lemma =>
                        obtain ⟨n1, a1, c1, rfl⟩ : ∃ n a c, v1 = .slice a n c := by obtain ⟨a, c, h⟩ := HI.out.ownW.form; exact ⟨_, a, c, h⟩
                        obtain ⟨n2, a2, c2, rfl⟩ : ∃ n a c, v2 = .slice a n c := by obtain ⟨a, c, h⟩ := HI.out.ownT.form; exact ⟨_, a, c, h⟩
                        obtain ⟨n3, a3, c3, rfl⟩ : ∃ n a c, v3 = .slice a n c := by obtain ⟨a, c, h⟩ := (HI.out.fam.own .all v3 (by simp [setRow'])).form; exact ⟨_, a, c, h⟩
                        refine wpTill_ready (rs := [24]) (by kernel_rfl) (by simp) ?_
                        refine AllTill.consT (o := { dst := some 60, op := Op.nilCheck (Operand.tmp 36), type := 0, pos := "", after := #[], guard := none }) (by rfl) rfl (fun K hK => ?_) AllTill.nil
                        go_simp
                        refine hK.out _ _ (.inr HI.out.cells3) ?_
                        clear hK K
                        try simp only [Act.put, List.setIfInBounds_toArray, List.set_cons_zero, List.set_cons_succ]
                        refine wpTill_ready (rs := [25]) (by kernel_rfl) (by simp) ?_
                        refine AllTill.consT (o := { dst := some 61, op := Op.fieldAddr 36 (Operand.tmp 60) 0, type := 0, pos := "", after := #[], guard := none }) (by rfl) rfl (fun K hK => ?_) AllTill.nil
                        go_simp
                        refine hK.out _ _ (.inr HI.out.cells3) ?_
                        clear hK K
                        try simp only [Act.put, List.setIfInBounds_toArray, List.set_cons_zero, List.set_cons_succ]
                        refine wpTill_ready (rs := [26]) (by kernel_rfl) (by simp) ?_
                        refine AllTill.consT (o := { dst := none, op := Op.store 22 (Operand.tmp 61) (Operand.tmp 45), type := 0, pos := "", after := #[], guard := none }) (by rfl) rfl (fun K hK => ?_) AllTill.nil
                        have kc : W48.cell? ⟨w.heap.size + 1 + 1, 0, none⟩ = some vw := HI.out.xblk.cell 0
                        have kf : W48.frozen? ⟨w.heap.size + 1 + 1, 0, none⟩ = false := HI.out.xblk.frozen 0
                        go_simp
                        clear kc kf
                        refine hK.out _ _ (.inl (by kernel_rfl)) ?_
                        clear hK K
                        try simp only [Act.put, List.setIfInBounds_toArray, List.set_cons_zero, List.set_cons_succ]
                        have HSM2 := hide (Mp.set HSM.out HI.out.xblk 0 (.slice a1 n1 c1))
                        clear HSM
                        have HSM := HSM2
                        clear HSM2
                        obtain ⟨cc, hcc, _, hnx⟩ := HI.out.store (.slice a1 n1 c1) 0
                        have HI2 := hide (hnx (.slice a1 n1 c1) vt x2 hcc)
                        clear HI hnx hcc
                        have HI := HI2
                        clear HI2
                        generalize W48.setCell ⟨w.heap.size + 1 + 1, 0, none⟩ (.slice a1 n1 c1) = W49 at HI HSM ⊢
                        refine wpTill_ready (rs := [27]) (by kernel_rfl) (by simp) ?_
                        refine AllTill.consT (o := { dst := some 62, op := Op.nilCheck (Operand.tmp 37), type := 0, pos := "", after := #[], guard := none }) (by rfl) rfl (fun K hK => ?_) AllTill.nil
                        go_simp
                        refine hK.out _ _ (.inl (by kernel_rfl)) ?_
                        clear hK K
                        try simp only [Act.put, List.setIfInBounds_toArray, List.set_cons_zero, List.set_cons_succ]
                        refine wpTill_ready (rs := [28]) (by kernel_rfl) (by simp) ?_
                        refine AllTill.consT (o := { dst := some 63, op := Op.fieldAddr 36 (Operand.tmp 62) 1, type := 0, pos := "", after := #[], guard := none }) (by rfl) rfl (fun K hK => ?_) AllTill.nil
                        go_simp
                        refine hK.out _ _ (.inl (by kernel_rfl)) ?_
                        clear hK K
                        try simp only [Act.put, List.setIfInBounds_toArray, List.set_cons_zero, List.set_cons_succ]
                        refine wpTill_ready (rs := [29]) (by kernel_rfl) (by simp) ?_
                        refine AllTill.consT (o := { dst := none, op := Op.store 22 (Operand.tmp 63) (Operand.tmp 52), type := 0, pos := "", after := #[], guard := none }) (by rfl) rfl (fun K hK => ?_) AllTill.nil
                        have kc : W49.cell? ⟨w.heap.size + 1 + 1, 1, none⟩ = some vt := HI.out.xblk.cell 1
                        have kf : W49.frozen? ⟨w.heap.size + 1 + 1, 1, none⟩ = false := HI.out.xblk.frozen 1
                        go_simp
                        clear kc kf
                        refine hK.out _ _ (.inl (by kernel_rfl)) ?_
                        clear hK K
                        try simp only [Act.put, List.setIfInBounds_toArray, List.set_cons_zero, List.set_cons_succ]
                        have HSM2 := hide (Mp.set HSM.out HI.out.xblk 1 (.slice a2 n2 c2))
                        clear HSM
                        have HSM := HSM2
                        clear HSM2
                        obtain ⟨cc, hcc, _, hnx⟩ := HI.out.store (.slice a2 n2 c2) 1
                        have HI2 := hide (hnx (.slice a1 n1 c1) (.slice a2 n2 c2) x2 hcc)
                        clear HI hnx hcc
                        have HI := HI2
                        clear HI2
                        generalize W49.setCell ⟨w.heap.size + 1 + 1, 1, none⟩ (.slice a2 n2 c2) = W50 at HI HSM ⊢
                        refine wpTill_ready (rs := [30]) (by kernel_rfl) (by simp) ?_
                        refine AllTill.consT (o := { dst := some 64, op := Op.nilCheck (Operand.tmp 38), type := 0, pos := "", after := #[], guard := none }) (by rfl) rfl (fun K hK => ?_) AllTill.nil
                        go_simp
                        refine hK.out _ _ (.inl (by kernel_rfl)) ?_
                        clear hK K
                        try simp only [Act.put, List.setIfInBounds_toArray, List.set_cons_zero, List.set_cons_succ]
                        refine wpTill_ready (rs := [31]) (by kernel_rfl) (by simp) ?_
                        refine AllTill.consT (o := { dst := some 65, op := Op.fieldAddr 36 (Operand.tmp 64) 2, type := 0, pos := "", after := #[], guard := none }) (by rfl) rfl (fun K hK => ?_) AllTill.nil
                        go_simp
                        refine hK.out _ _ (.inl (by kernel_rfl)) ?_
                        clear hK K
                        try simp only [Act.put, List.setIfInBounds_toArray, List.set_cons_zero, List.set_cons_succ]
                        refine wpTill_ready (rs := [32]) (by kernel_rfl) (by simp) ?_
                        refine AllTill.consT (o := { dst := none, op := Op.store 28 (Operand.tmp 65) (Operand.tmp 59), type := 0, pos := "", after := #[], guard := none }) (by rfl) rfl (fun K hK => ?_) AllTill.nil
                        have kc : W50.cell? ⟨w.heap.size + 1 + 1, 2, none⟩ = some x2 := HI.out.xblk.cell 2
                        have kf : W50.frozen? ⟨w.heap.size + 1 + 1, 2, none⟩ = false := HI.out.xblk.frozen 2
                        go_simp
                        clear kc kf
                        refine hK.out _ _ (.inl (by kernel_rfl)) ?_
                        clear hK K
                        try simp only [Act.put, List.setIfInBounds_toArray, List.set_cons_zero, List.set_cons_succ]
                        have HSM2 := hide (Mp.set HSM.out HI.out.xblk 2 (.slice a3 n3 c3))
                        clear HSM
                        have HSM := HSM2
                        clear HSM2
                        obtain ⟨cc, hcc, _, hnx⟩ := HI.out.store (.slice a3 n3 c3) 2
                        have HI2 := hide (hnx (.slice a1 n1 c1) (.slice a2 n2 c2) (.slice a3 n3 c3) hcc)
                        clear HI hnx hcc
                        have HI := HI2
                        clear HI2
                        generalize W50.setCell ⟨w.heap.size + 1 + 1, 2, none⟩ (.slice a3 n3 c3) = W51 at HI HSM ⊢
                        refine wpTill_done (by kernel_rfl) ?_ _
                        go_wp2_with fail
                        go_meet
                        case rel => exact ⟨(.slice a1 n1 c1), (.slice a2 n2 c2), ws ++ [tg], setRow' row .all (.slice a3 n3 c3), fm, lm, HI.out, by simp [hlw], ⟨sm, HSM.out, HSMt.out⟩, hx⟩
                    exact AllTill.nil
                  exact AllTill.nil
                exact AllTill.nil
              refine AllTill.consT (o := { dst := some 51, op := Op.buildSlice 22 1 #[(0, Operand.tmp 50)], type := 22, pos := "", after := #[], guard := none }) (by rfl) rfl (fun K hK => ?_) ?_
              · go_simp
                refine hK.out _ _ (.inr ((HI.out.alloc _).cells3)) ?_
                clear hK K
                try simp only [Act.put, List.setIfInBounds_toArray, List.set_cons_zero, List.set_cons_succ]
                have HP2 := hide (Pn.new HI.out (.string (str (lwS tg))) 9)
                have HQ1 := hide (HP1.out.alloc (.cells #[.string (str (lwS tg))] 9))
                clear HP1
                have HP1 := HQ1
                clear HQ1
                have HQ3 := hide (HP3.out.alloc (.cells #[.string (str (lwS tg))] 9))
                clear HP3
                have HP3 := HQ3
                clear HQ3
                have HI2 := hide (HI.out.alloc (.cells #[.string (str (lwS tg))] 9))
                clear HI
                have HI := HI2
                clear HI2
                have HSM2 := hide (Mp.alloc' HSM.out (.cells #[.string (str (lwS tg))] 9))
                clear HSM
                have HSM := HSM2
                clear HSM2
                generalize W44.alloc (.cells #[.string (str (lwS tg))] 9) = W52 at HP2 HP1 HP3 HI HSM ⊢
                refine wpTill_ready (rs := [9]) (by kernel_rfl) (by simp) ?_
                refine AllTill.consT (o := { dst := some 45, op := Op.call { callee := Callee.builtin Builtin.append, args := #[Operand.tmp 42, Operand.tmp 44], argTypes := #[22, 22] }, type := 22, pos := "", after := #[], guard := none }) (by rfl) rfl (fun K hK => ?_) ?_
                · refine step_append_one rfl _ _ 22 rfl 9 i9 _ 16 Yba.underlying22 hi9 hz9 hs9 hb9 rfl vw _ (by rfl) HI.out.ownW ⟨W0.heap.size, 0, none⟩ (.string (str tg)) (by rfl) HP1.out.cell rfl rfl (by simp [hlw, maxLen]; omega) (by simp [hlw]; omega) ?_
                  intro v1 W53 hO hg hb
                  have HQ2 := hide (HP2.out.appW hg hb.out)
                  clear HP2
                  have HP2 := HQ2
                  clear HQ2
                  have HQ3 := hide (HP3.out.appW hg hb.out)
                  clear HP3
                  have HP3 := HQ3
                  clear HQ3
                  have HSM2 := hide (Mp.grown HSM.out hg (own_cells HI.out.ownW))
                  clear HSM
                  have HSM := HSM2
                  clear HSM2
                  have HI2 := hide (HI.out.appW hO hg hb.out)
                  clear HI HP1 hO hg hb
                  have HI := HI2
                  clear HI2
                  refine hK.out _ _ (.inr HI.out.cells3) ?_
                  clear hK K
                  try simp only [Act.put, List.setIfInBounds_toArray, List.set_cons_zero, List.set_cons_succ]
                  refine wpTill_ready (rs := [16]) (by kernel_rfl) (by simp) ?_
                  refine AllTill.consT (o := { dst := some 52, op := Op.call { callee := Callee.builtin Builtin.append, args := #[Operand.tmp 49, Operand.tmp 51], argTypes := #[22, 22] }, type := 22, pos := "", after := #[], guard := none }) (by rfl) rfl (fun K hK => ?_) ?_
                  · refine step_append_one rfl _ _ 22 rfl 9 i9 _ 16 Yba.underlying22 hi9 hz9 hs9 hb9 rfl vt _ (by rfl) HI.out.ownT ⟨W44.heap.size, 0, none⟩ (.string (str (lwS tg))) (by rfl) HP2.out.cell rfl rfl (by simp [maxLen]; omega) (by simp; omega) ?_
                    intro v2 W54 hO hg hb
                    have HQ3 := hide (HP3.out.appT hg hb.out)
                    clear HP3
                    have HP3 := HQ3
                    clear HQ3
                    have HSM2 := hide (Mp.grown HSM.out hg (own_cells HI.out.ownT))
                    clear HSM
                    have HSM := HSM2
                    clear HSM2
                    have HI2 := hide (HI.out.appT hO hg hb.out)
                    clear HI HP2 hO hg hb
                    have HI := HI2
                    clear HI2
                    refine hK.out _ _ (.inr HI.out.cells3) ?_
                    clear hK K
                    try simp only [Act.put, List.setIfInBounds_toArray, List.set_cons_zero, List.set_cons_succ]
                    refine wpTill_ready (rs := [23]) (by kernel_rfl) (by simp) ?_
                    refine AllTill.consT (o := { dst := some 59, op := Op.call { callee := Callee.builtin Builtin.append, args := #[Operand.tmp 56, Operand.tmp 58], argTypes := #[28, 28] }, type := 28, pos := "", after := #[], guard := none }) (by rfl) rfl (fun K hK => ?_) ?_
                    · refine step_append_one rfl _ _ 28 rfl 3 i3 _ 8 Yba.underlying28 hi3 hz3 hs3 hb3 rfl x2 _ (by rfl) (HX2.out ▸ HI.out.fam.ownD .all) ⟨W1.heap.size, 0, none⟩ (.int .i64 (low.length : Nat)) (by rfl) HP3.out.cell rfl rfl (by simp [conOf, maxLen]; omega) (by simp [conOf]; omega) ?_
                      intro v3 W55 hO hg hb
                      have HSM2 := hide (Mp.grown HSM.out hg (own_cells (HX2.out ▸ HI.out.fam.ownD .all)))
                      clear HSM
                      have HSM := HSM2
                      clear HSM2
                      have HI2 := hide (HI.out.appAll low.length hO (HX2.out ▸ hg) (HX2.out ▸ hb.out))
                      clear HI HP3 hO hg hb
                      have HI := HI2
                      clear HI2
                      refine hK.out _ _ (.inr HI.out.cells3) ?_
                      clear hK K
                      try simp only [Act.put, List.setIfInBounds_toArray, List.set_cons_zero, List.set_cons_succ]
                      as_aux_lemma =>
                        obtain ⟨n1, a1, c1, rfl⟩ : ∃ n a c, v1 = .slice a n c := by obtain ⟨a, c, h⟩ := HI.out.ownW.form; exact ⟨_, a, c, h⟩
                        obtain ⟨n2, a2, c2, rfl⟩ : ∃ n a c, v2 = .slice a n c := by obtain ⟨a, c, h⟩ := HI.out.ownT.form; exact ⟨_, a, c, h⟩
                        obtain ⟨n3, a3, c3, rfl⟩ : ∃ n a c, v3 = .slice a n c := by obtain ⟨a, c, h⟩ := (HI.out.fam.own .all v3 (by simp [setRow'])).form; exact ⟨_, a, c, h⟩
                        refine wpTill_ready (rs := [24]) (by kernel_rfl) (by simp) ?_
                        refine AllTill.consT (o := { dst := some 60, op := Op.nilCheck (Operand.tmp 36), type := 0, pos := "", after := #[], guard := none }) (by rfl) rfl (fun K hK => ?_) AllTill.nil
                        go_simp
                        refine hK.out _ _ (.inr HI.out.cells3) ?_
                        clear hK K
                        try simp only [Act.put, List.setIfInBounds_toArray, List.set_cons_zero, List.set_cons_succ]
                        refine wpTill_ready (rs := [25]) (by kernel_rfl) (by simp) ?_
                        refine AllTill.consT (o := { dst := some 61, op := Op.fieldAddr 36 (Operand.tmp 60) 0, type := 0, pos := "", after := #[], guard := none }) (by rfl) rfl (fun K hK => ?_) AllTill.nil
                        go_simp
                        refine hK.out _ _ (.inr HI.out.cells3) ?_
                        clear hK K
                        try simp only [Act.put, List.setIfInBounds_toArray, List.set_cons_zero, List.set_cons_succ]
                        refine wpTill_ready (rs := [26]) (by kernel_rfl) (by simp) ?_
                        refine AllTill.consT (o := { dst := none, op := Op.store 22 (Operand.tmp 61) (Operand.tmp 45), type := 0, pos := "", after := #[], guard := none }) (by rfl) rfl (fun K hK => ?_) AllTill.nil
                        have kc : W55.cell? ⟨w.heap.size + 1 + 1, 0, none⟩ = some vw := HI.out.xblk.cell 0
                        have kf : W55.frozen? ⟨w.heap.size + 1 + 1, 0, none⟩ = false := HI.out.xblk.frozen 0
                        go_simp
                        clear kc kf
                        refine hK.out _ _ (.inl (by kernel_rfl)) ?_
                        clear hK K
                        try simp only [Act.put, List.setIfInBounds_toArray, List.set_cons_zero, List.set_cons_succ]
                        have HSM2 := hide (Mp.set HSM.out HI.out.xblk 0 (.slice a1 n1 c1))
                        clear HSM
                        have HSM := HSM2
                        clear HSM2
                        obtain ⟨cc, hcc, _, hnx⟩ := HI.out.store (.slice a1 n1 c1) 0
                        have HI2 := hide (hnx (.slice a1 n1 c1) vt x2 hcc)
                        clear HI hnx hcc
                        have HI := HI2
                        clear HI2
                        generalize W55.setCell ⟨w.heap.size + 1 + 1, 0, none⟩ (.slice a1 n1 c1) = W56 at HI HSM ⊢
                        refine wpTill_ready (rs := [27]) (by kernel_rfl) (by simp) ?_
                        refine AllTill.consT (o := { dst := some 62, op := Op.nilCheck (Operand.tmp 37), type := 0, pos := "", after := #[], guard := none }) (by rfl) rfl (fun K hK => ?_) AllTill.nil
                        go_simp
                        refine hK.out _ _ (.inl (by kernel_rfl)) ?_
                        clear hK K
                        try simp only [Act.put, List.setIfInBounds_toArray, List.set_cons_zero, List.set_cons_succ]
                        refine wpTill_ready (rs := [28]) (by kernel_rfl) (by simp) ?_
                        refine AllTill.consT (o := { dst := some 63, op := Op.fieldAddr 36 (Operand.tmp 62) 1, type := 0, pos := "", after := #[], guard := none }) (by rfl) rfl (fun K hK => ?_) AllTill.nil
                        go_simp
                        refine hK.out _ _ (.inl (by kernel_rfl)) ?_
                        clear hK K
                        try simp only [Act.put, List.setIfInBounds_toArray, List.set_cons_zero, List.set_cons_succ]
                        refine wpTill_ready (rs := [29]) (by kernel_rfl) (by simp) ?_
                        refine AllTill.consT (o := { dst := none, op := Op.store 22 (Operand.tmp 63) (Operand.tmp 52), type := 0, pos := "", after := #[], guard := none }) (by rfl) rfl (fun K hK => ?_) AllTill.nil
                        have kc : W56.cell? ⟨w.heap.size + 1 + 1, 1, none⟩ = some vt := HI.out.xblk.cell 1
                        have kf : W56.frozen? ⟨w.heap.size + 1 + 1, 1, none⟩ = false := HI.out.xblk.frozen 1
                        go_simp
                        clear kc kf
                        refine hK.out _ _ (.inl (by kernel_rfl)) ?_
                        clear hK K
                        try simp only [Act.put, List.setIfInBounds_toArray, List.set_cons_zero, List.set_cons_succ]
                        have HSM2 := hide (Mp.set HSM.out HI.out.xblk 1 (.slice a2 n2 c2))
                        clear HSM
                        have HSM := HSM2
                        clear HSM2
                        obtain ⟨cc, hcc, _, hnx⟩ := HI.out.store (.slice a2 n2 c2) 1
                        have HI2 := hide (hnx (.slice a1 n1 c1) (.slice a2 n2 c2) x2 hcc)
                        clear HI hnx hcc
                        have HI := HI2
                        clear HI2
                        generalize W56.setCell ⟨w.heap.size + 1 + 1, 1, none⟩ (.slice a2 n2 c2) = W57 at HI HSM ⊢
                        refine wpTill_ready (rs := [30]) (by kernel_rfl) (by simp) ?_
                        refine AllTill.consT (o := { dst := some 64, op := Op.nilCheck (Operand.tmp 38), type := 0, pos := "", after := #[], guard := none }) (by rfl) rfl (fun K hK => ?_) AllTill.nil
                        go_simp
                        refine hK.out _ _ (.inl (by kernel_rfl)) ?_
                        clear hK K
                        try simp only [Act.put, List.setIfInBounds_toArray, List.set_cons_zero, List.set_cons_succ]
                        refine wpTill_ready (rs := [31]) (by kernel_rfl) (by simp) ?_
                        refine AllTill.consT (o := { dst := some 65, op := Op.fieldAddr 36 (Operand.tmp 64) 2, type := 0, pos := "", after := #[], guard := none }) (by rfl) rfl (fun K hK => ?_) AllTill.nil
                        go_simp
                        refine hK.out _ _ (.inl (by kernel_rfl)) ?_
                        clear hK K
                        try simp only [Act.put, List.setIfInBounds_toArray, List.set_cons_zero, List.set_cons_succ]
                        refine wpTill_ready (rs := [32]) (by kernel_rfl) (by simp) ?_
                        refine AllTill.consT (o := { dst := none, op := Op.store 28 (Operand.tmp 65) (Operand.tmp 59), type := 0, pos := "", after := #[], guard := none }) (by rfl) rfl (fun K hK => ?_) AllTill.nil
                        have kc : W57.cell? ⟨w.heap.size + 1 + 1, 2, none⟩ = some x2 := HI.out.xblk.cell 2
                        have kf : W57.frozen? ⟨w.heap.size + 1 + 1, 2, none⟩ = false := HI.out.xblk.frozen 2
                        go_simp
                        clear kc kf
                        refine hK.out _ _ (.inl (by kernel_rfl)) ?_
                        clear hK K
                        try simp only [Act.put, List.setIfInBounds_toArray, List.set_cons_zero, List.set_cons_succ]
                        have HSM2 := hide (Mp.set HSM.out HI.out.xblk 2 (.slice a3 n3 c3))
                        clear HSM
                        have HSM := HSM2
                        clear HSM2
                        obtain ⟨cc, hcc, _, hnx⟩ := HI.out.store (.slice a3 n3 c3) 2
                        have HI2 := hide (hnx (.slice a1 n1 c1) (.slice a2 n2 c2) (.slice a3 n3 c3) hcc)
                        clear HI hnx hcc
                        have HI := HI2
                        clear HI2
                        generalize W57.setCell ⟨w.heap.size + 1 + 1, 2, none⟩ (.slice a3 n3 c3) = W58 at HI HSM ⊢
                        refine wpTill_done (by kernel_rfl) ?_ _
                        go_wp2_with fail
                        go_meet
                        case rel => exact ⟨(.slice a1 n1 c1), (.slice a2 n2 c2), ws ++ [tg], setRow' row .all (.slice a3 n3 c3), fm, lm, HI.out, by simp [hlw], ⟨sm, HSM.out, HSMt.out⟩, hx⟩
                    exact AllTill.nil
                  exact AllTill.nil
                exact AllTill.nil
              exact AllTill.nil
            exact AllTill.nil
          refine AllTill.consT (o := { dst := some 51, op := Op.buildSlice 22 1 #[(0, Operand.tmp 50)], type := 22, pos := "", after := #[], guard := none }) (by rfl) rfl (fun K hK => ?_) ?_
          · go_simp
            refine hK.out _ _ (.inr ((HI.out.alloc _).cells3)) ?_
            clear hK K
            try simp only [Act.put, List.setIfInBounds_toArray, List.set_cons_zero, List.set_cons_succ]
            have HP2 := hide (Pn.new HI.out (.string (str (lwS tg))) 9)
            have HI2 := hide (HI.out.alloc (.cells #[.string (str (lwS tg))] 9))
            clear HI
            have HI := HI2
            clear HI2
            have HSM2 := hide (Mp.alloc' HSM.out (.cells #[.string (str (lwS tg))] 9))
            clear HSM
            have HSM := HSM2
            clear HSM2
            generalize W0.alloc (.cells #[.string (str (lwS tg))] 9) = W59 at HP2 HI HSM ⊢
            refine wpTill_ready (rs := [8, 22]) (by kernel_rfl) (by simp) ?_
            refine AllTill.consT (o := { dst := some 44, op := Op.buildSlice 22 1 #[(0, Operand.tmp 43)], type := 22, pos := "", after := #[], guard := none }) (by rfl) rfl (fun K hK => ?_) ?_
            · go_simp
              refine hK.out _ _ (.inr ((HI.out.alloc _).cells3)) ?_
              clear hK K
              try simp only [Act.put, List.setIfInBounds_toArray, List.set_cons_zero, List.set_cons_succ]
              have HP1 := hide (Pn.new HI.out (.string (str tg)) 9)
              have HQ2 := hide (HP2.out.alloc (.cells #[.string (str tg)] 9))
              clear HP2
              have HP2 := HQ2
              clear HQ2
              have HI2 := hide (HI.out.alloc (.cells #[.string (str tg)] 9))
              clear HI
              have HI := HI2
              clear HI2
              have HSM2 := hide (Mp.alloc' HSM.out (.cells #[.string (str tg)] 9))
              clear HSM
              have HSM := HSM2
              clear HSM2
              generalize W59.alloc (.cells #[.string (str tg)] 9) = W60 at HP1 HP2 HI HSM ⊢
              refine wpTill_ready (rs := [9, 22]) (by kernel_rfl) (by simp) ?_
              refine AllTill.consT (o := { dst := some 45, op := Op.call { callee := Callee.builtin Builtin.append, args := #[Operand.tmp 42, Operand.tmp 44], argTypes := #[22, 22] }, type := 22, pos := "", after := #[], guard := none }) (by rfl) rfl (fun K hK => ?_) ?_
              · refine step_append_one rfl _ _ 22 rfl 9 i9 _ 16 Yba.underlying22 hi9 hz9 hs9 hb9 rfl vw _ (by rfl) HI.out.ownW ⟨W59.heap.size, 0, none⟩ (.string (str tg)) (by rfl) HP1.out.cell rfl rfl (by simp [hlw, maxLen]; omega) (by simp [hlw]; omega) ?_
                intro v1 W61 hO hg hb
                have HQ2 := hide (HP2.out.appW hg hb.out)
                clear HP2
                have HP2 := HQ2
                clear HQ2
                have HSM2 := hide (Mp.grown HSM.out hg (own_cells HI.out.ownW))
                clear HSM
                have HSM := HSM2
                clear HSM2
                have HI2 := hide (HI.out.appW hO hg hb.out)
                clear HI HP1 hO hg hb
                have HI := HI2
                clear HI2
                refine hK.out _ _ (.inr HI.out.cells3) ?_
                clear hK K
                try simp only [Act.put, List.setIfInBounds_toArray, List.set_cons_zero, List.set_cons_succ]
                refine wpTill_ready (rs := [16, 22]) (by kernel_rfl) (by simp) ?_
                refine AllTill.consT (o := { dst := some 52, op := Op.call { callee := Callee.builtin Builtin.append, args := #[Operand.tmp 49, Operand.tmp 51], argTypes := #[22, 22] }, type := 22, pos := "", after := #[], guard := none }) (by rfl) rfl (fun K hK => ?_) ?_
                · refine step_append_one rfl _ _ 22 rfl 9 i9 _ 16 Yba.underlying22 hi9 hz9 hs9 hb9 rfl vt _ (by rfl) HI.out.ownT ⟨W0.heap.size, 0, none⟩ (.string (str (lwS tg))) (by rfl) HP2.out.cell rfl rfl (by simp [maxLen]; omega) (by simp; omega) ?_
                  intro v2 W62 hO hg hb
                  have HSM2 := hide (Mp.grown HSM.out hg (own_cells HI.out.ownT))
                  clear HSM
                  have HSM := HSM2
                  clear HSM2
                  have HI2 := hide (HI.out.appT hO hg hb.out)
                  clear HI HP2 hO hg hb
                  have HI := HI2
                  clear HI2
                  refine hK.out _ _ (.inr HI.out.cells3) ?_
                  clear hK K
                  try simp only [Act.put, List.setIfInBounds_toArray, List.set_cons_zero, List.set_cons_succ]
                  refine wpTill_ready (rs := [22]) (by kernel_rfl) (by simp) ?_
                  refine AllTill.consT (o := { dst := some 58, op := Op.buildSlice 28 1 #[(0, Operand.tmp 57)], type := 28, pos := "", after := #[], guard := none }) (by rfl) rfl (fun K hK => ?_) ?_
                  · go_simp
                    refine hK.out _ _ (.inr ((HI.out.alloc _).cells3)) ?_
                    clear hK K
                    try simp only [Act.put, List.setIfInBounds_toArray, List.set_cons_zero, List.set_cons_succ]
                    have HP3 := hide (Pn.new HI.out (.int .i64 (low.length : Nat)) 3)
                    have HI2 := hide (HI.out.alloc (.cells #[.int .i64 (low.length : Nat)] 3))
                    clear HI
                    have HI := HI2
                    clear HI2
                    have HSM2 := hide (Mp.alloc' HSM.out (.cells #[.int .i64 (low.length : Nat)] 3))
                    clear HSM
                    have HSM := HSM2
                    clear HSM2
                    generalize W62.alloc (.cells #[.int .i64 (low.length : Nat)] 3) = W63 at HP3 HI HSM ⊢
                    refine wpTill_ready (rs := [23]) (by kernel_rfl) (by simp) ?_
                    refine AllTill.consT (o := { dst := some 59, op := Op.call { callee := Callee.builtin Builtin.append, args := #[Operand.tmp 56, Operand.tmp 58], argTypes := #[28, 28] }, type := 28, pos := "", after := #[], guard := none }) (by rfl) rfl (fun K hK => ?_) ?_
                    · refine step_append_one rfl _ _ 28 rfl 3 i3 _ 8 Yba.underlying28 hi3 hz3 hs3 hb3 rfl x2 _ (by rfl) (HX2.out ▸ HI.out.fam.ownD .all) ⟨W62.heap.size, 0, none⟩ (.int .i64 (low.length : Nat)) (by rfl) HP3.out.cell rfl rfl (by simp [conOf, maxLen]; omega) (by simp [conOf]; omega) ?_
                      intro v3 W64 hO hg hb
                      have HSM2 := hide (Mp.grown HSM.out hg (own_cells (HX2.out ▸ HI.out.fam.ownD .all)))
                      clear HSM
                      have HSM := HSM2
                      clear HSM2
                      have HI2 := hide (HI.out.appAll low.length hO (HX2.out ▸ hg) (HX2.out ▸ hb.out))
                      clear HI HP3 hO hg hb
                      have HI := HI2
                      clear HI2
                      refine hK.out _ _ (.inr HI.out.cells3) ?_
                      clear hK K
                      try simp only [Act.put, List.setIfInBounds_toArray, List.set_cons_zero, List.set_cons_succ]
                      as_aux_lemma =>
                        obtain ⟨n1, a1, c1, rfl⟩ : ∃ n a c, v1 = .slice a n c := by obtain ⟨a, c, h⟩ := HI.out.ownW.form; exact ⟨_, a, c, h⟩
                        obtain ⟨n2, a2, c2, rfl⟩ : ∃ n a c, v2 = .slice a n c := by obtain ⟨a, c, h⟩ := HI.out.ownT.form; exact ⟨_, a, c, h⟩
                        obtain ⟨n3, a3, c3, rfl⟩ : ∃ n a c, v3 = .slice a n c := by obtain ⟨a, c, h⟩ := (HI.out.fam.own .all v3 (by simp [setRow'])).form; exact ⟨_, a, c, h⟩
                        refine wpTill_ready (rs := [24]) (by kernel_rfl) (by simp) ?_
                        refine AllTill.consT (o := { dst := some 60, op := Op.nilCheck (Operand.tmp 36), type := 0, pos := "", after := #[], guard := none }) (by rfl) rfl (fun K hK => ?_) AllTill.nil
                        go_simp
                        refine hK.out _ _ (.inr HI.out.cells3) ?_
                        clear hK K
                        try simp only [Act.put, List.setIfInBounds_toArray, List.set_cons_zero, List.set_cons_succ]
                        refine wpTill_ready (rs := [25]) (by kernel_rfl) (by simp) ?_
                        refine AllTill.consT (o := { dst := some 61, op := Op.fieldAddr 36 (Operand.tmp 60) 0, type := 0, pos := "", after := #[], guard := none }) (by rfl) rfl (fun K hK => ?_) AllTill.nil
                        go_simp
                        refine hK.out _ _ (.inr HI.out.cells3) ?_
                        clear hK K
                        try simp only [Act.put, List.setIfInBounds_toArray, List.set_cons_zero, List.set_cons_succ]
                        refine wpTill_ready (rs := [26]) (by kernel_rfl) (by simp) ?_
                        refine AllTill.consT (o := { dst := none, op := Op.store 22 (Operand.tmp 61) (Operand.tmp 45), type := 0, pos := "", after := #[], guard := none }) (by rfl) rfl (fun K hK => ?_) AllTill.nil
                        have kc : W64.cell? ⟨w.heap.size + 1 + 1, 0, none⟩ = some vw := HI.out.xblk.cell 0
                        have kf : W64.frozen? ⟨w.heap.size + 1 + 1, 0, none⟩ = false := HI.out.xblk.frozen 0
                        go_simp
                        clear kc kf
                        refine hK.out _ _ (.inl (by kernel_rfl)) ?_
                        clear hK K
                        try simp only [Act.put, List.setIfInBounds_toArray, List.set_cons_zero, List.set_cons_succ]
                        have HSM2 := hide (Mp.set HSM.out HI.out.xblk 0 (.slice a1 n1 c1))
                        clear HSM
                        have HSM := HSM2
                        clear HSM2
                        obtain ⟨cc, hcc, _, hnx⟩ := HI.out.store (.slice a1 n1 c1) 0
                        have HI2 := hide (hnx (.slice a1 n1 c1) vt x2 hcc)
                        clear HI hnx hcc
                        have HI := HI2
                        clear HI2
                        generalize W64.setCell ⟨w.heap.size + 1 + 1, 0, none⟩ (.slice a1 n1 c1) = W65 at HI HSM ⊢
                        refine wpTill_ready (rs := [27]) (by kernel_rfl) (by simp) ?_
                        refine AllTill.consT (o := { dst := some 62, op := Op.nilCheck (Operand.tmp 37), type := 0, pos := "", after := #[], guard := none }) (by rfl) rfl (fun K hK => ?_) AllTill.nil
                        go_simp
                        refine hK.out _ _ (.inl (by kernel_rfl)) ?_
                        clear hK K
                        try simp only [Act.put, List.setIfInBounds_toArray, List.set_cons_zero, List.set_cons_succ]
                        refine wpTill_ready (rs := [28]) (by kernel_rfl) (by simp) ?_
                        refine AllTill.consT (o := { dst := some 63, op := Op.fieldAddr 36 (Operand.tmp 62) 1, type := 0, pos := "", after := #[], guard := none }) (by rfl) rfl (fun K hK => ?_) AllTill.nil
                        go_simp
                        refine hK.out _ _ (.inl (by kernel_rfl)) ?_
                        clear hK K
                        try simp only [Act.put, List.setIfInBounds_toArray, List.set_cons_zero, List.set_cons_succ]
                        refine wpTill_ready (rs := [29]) (by kernel_rfl) (by simp) ?_
                        refine AllTill.consT (o := { dst := none, op := Op.store 22 (Operand.tmp 63) (Operand.tmp 52), type := 0, pos := "", after := #[], guard := none }) (by rfl) rfl (fun K hK => ?_) AllTill.nil
                        have kc : W65.cell? ⟨w.heap.size + 1 + 1, 1, none⟩ = some vt := HI.out.xblk.cell 1
                        have kf : W65.frozen? ⟨w.heap.size + 1 + 1, 1, none⟩ = false := HI.out.xblk.frozen 1
                        go_simp
                        clear kc kf
                        refine hK.out _ _ (.inl (by kernel_rfl)) ?_
                        clear hK K
                        try simp only [Act.put, List.setIfInBounds_toArray, List.set_cons_zero, List.set_cons_succ]
                        have HSM2 := hide (Mp.set HSM.out HI.out.xblk 1 (.slice a2 n2 c2))
                        clear HSM
                        have HSM := HSM2
                        clear HSM2
                        obtain ⟨cc, hcc, _, hnx⟩ := HI.out.store (.slice a2 n2 c2) 1
                        have HI2 := hide (hnx (.slice a1 n1 c1) (.slice a2 n2 c2) x2 hcc)
                        clear HI hnx hcc
                        have HI := HI2
                        clear HI2
                        generalize W65.setCell ⟨w.heap.size + 1 + 1, 1, none⟩ (.slice a2 n2 c2) = W66 at HI HSM ⊢
                        refine wpTill_ready (rs := [30]) (by kernel_rfl) (by simp) ?_
                        refine AllTill.consT (o := { dst := some 64, op := Op.nilCheck (Operand.tmp 38), type := 0, pos := "", after := #[], guard := none }) (by rfl) rfl (fun K hK => ?_) AllTill.nil
                        go_simp
                        refine hK.out _ _ (.inl (by kernel_rfl)) ?_
                        clear hK K
                        try simp only [Act.put, List.setIfInBounds_toArray, List.set_cons_zero, List.set_cons_succ]
                        refine wpTill_ready (rs := [31]) (by kernel_rfl) (by simp) ?_
                        refine AllTill.consT (o := { dst := some 65, op := Op.fieldAddr 36 (Operand.tmp 64) 2, type := 0, pos := "", after := #[], guard := none }) (by rfl) rfl (fun K hK => ?_) AllTill.nil
                        go_simp
                        refine hK.out _ _ (.inl (by kernel_rfl)) ?_
                        clear hK K
                        try simp only [Act.put, List.setIfInBounds_toArray, List.set_cons_zero, List.set_cons_succ]
                        refine wpTill_ready (rs := [32]) (by kernel_rfl) (by simp) ?_
                        refine AllTill.consT (o := { dst := none, op := Op.store 28 (Operand.tmp 65) (Operand.tmp 59), type := 0, pos := "", after := #[], guard := none }) (by rfl) rfl (fun K hK => ?_) AllTill.nil
                        have kc : W66.cell? ⟨w.heap.size + 1 + 1, 2, none⟩ = some x2 := HI.out.xblk.cell 2
                        have kf : W66.frozen? ⟨w.heap.size + 1 + 1, 2, none⟩ = false := HI.out.xblk.frozen 2
                        go_simp
                        clear kc kf
                        refine hK.out _ _ (.inl (by kernel_rfl)) ?_
                        clear hK K
                        try simp only [Act.put, List.setIfInBounds_toArray, List.set_cons_zero, List.set_cons_succ]
                        have HSM2 := hide (Mp.set HSM.out HI.out.xblk 2 (.slice a3 n3 c3))
                        clear HSM
                        have HSM := HSM2
                        clear HSM2
                        obtain ⟨cc, hcc, _, hnx⟩ := HI.out.store (.slice a3 n3 c3) 2
                        have HI2 := hide (hnx (.slice a1 n1 c1) (.slice a2 n2 c2) (.slice a3 n3 c3) hcc)
                        clear HI hnx hcc
                        have HI := HI2
                        clear HI2
                        generalize W66.setCell ⟨w.heap.size + 1 + 1, 2, none⟩ (.slice a3 n3 c3) = W67 at HI HSM ⊢
                        refine wpTill_done (by kernel_rfl) ?_ _
                        go_wp2_with fail
                        go_meet
                        case rel => exact ⟨(.slice a1 n1 c1), (.slice a2 n2 c2), ws ++ [tg], setRow' row .all (.slice a3 n3 c3), fm, lm, HI.out, by simp [hlw], ⟨sm, HSM.out, HSMt.out⟩, hx⟩
                    exact AllTill.nil
                  exact AllTill.nil
                refine AllTill.consT (o := { dst := some 58, op := Op.buildSlice 28 1 #[(0, Operand.tmp 57)], type := 28, pos := "", after := #[], guard := none }) (by rfl) rfl (fun K hK => ?_) ?_
                · go_simp
                  refine hK.out _ _ (.inr ((HI.out.alloc _).cells3)) ?_
                  clear hK K
                  try simp only [Act.put, List.setIfInBounds_toArray, List.set_cons_zero, List.set_cons_succ]
                  have HP3 := hide (Pn.new HI.out (.int .i64 (low.length : Nat)) 3)
                  have HQ2 := hide (HP2.out.alloc (.cells #[.int .i64 (low.length : Nat)] 3))
                  clear HP2
                  have HP2 := HQ2
                  clear HQ2
                  have HI2 := hide (HI.out.alloc (.cells #[.int .i64 (low.length : Nat)] 3))
                  clear HI
                  have HI := HI2
                  clear HI2
                  have HSM2 := hide (Mp.alloc' HSM.out (.cells #[.int .i64 (low.length : Nat)] 3))
                  clear HSM
                  have HSM := HSM2
                  clear HSM2
                  generalize W61.alloc (.cells #[.int .i64 (low.length : Nat)] 3) = W68 at HP3 HP2 HI HSM ⊢
                  refine wpTill_ready (rs := [16]) (by kernel_rfl) (by simp) ?_
                  refine AllTill.consT (o := { dst := some 52, op := Op.call { callee := Callee.builtin Builtin.append, args := #[Operand.tmp 49, Operand.tmp 51], argTypes := #[22, 22] }, type := 22, pos := "", after := #[], guard := none }) (by rfl) rfl (fun K hK => ?_) ?_
                  · refine step_append_one rfl _ _ 22 rfl 9 i9 _ 16 Yba.underlying22 hi9 hz9 hs9 hb9 rfl vt _ (by rfl) HI.out.ownT ⟨W0.heap.size, 0, none⟩ (.string (str (lwS tg))) (by rfl) HP2.out.cell rfl rfl (by simp [maxLen]; omega) (by simp; omega) ?_
                    intro v2 W69 hO hg hb
                    have HQ3 := hide (HP3.out.appT hg hb.out)
                    clear HP3
                    have HP3 := HQ3
                    clear HQ3
                    have HSM2 := hide (Mp.grown HSM.out hg (own_cells HI.out.ownT))
                    clear HSM
                    have HSM := HSM2
                    clear HSM2
                    have HI2 := hide (HI.out.appT hO hg hb.out)
                    clear HI HP2 hO hg hb
                    have HI := HI2
                    clear HI2
                    refine hK.out _ _ (.inr HI.out.cells3) ?_
                    clear hK K
                    try simp only [Act.put, List.setIfInBounds_toArray, List.set_cons_zero, List.set_cons_succ]
                    refine wpTill_ready (rs := [23]) (by kernel_rfl) (by simp) ?_
                    refine AllTill.consT (o := { dst := some 59, op := Op.call { callee := Callee.builtin Builtin.append, args := #[Operand.tmp 56, Operand.tmp 58], argTypes := #[28, 28] }, type := 28, pos := "", after := #[], guard := none }) (by rfl) rfl (fun K hK => ?_) ?_
                    · refine step_append_one rfl _ _ 28 rfl 3 i3 _ 8 Yba.underlying28 hi3 hz3 hs3 hb3 rfl x2 _ (by rfl) (HX2.out ▸ HI.out.fam.ownD .all) ⟨W61.heap.size, 0, none⟩ (.int .i64 (low.length : Nat)) (by rfl) HP3.out.cell rfl rfl (by simp [conOf, maxLen]; omega) (by simp [conOf]; omega) ?_
                      intro v3 W70 hO hg hb
                      have HSM2 := hide (Mp.grown HSM.out hg (own_cells (HX2.out ▸ HI.out.fam.ownD .all)))
                      clear HSM
                      have HSM := HSM2
                      clear HSM2
                      have HI2 := hide (HI.out.appAll low.length hO (HX2.out ▸ hg) (HX2.out ▸ hb.out))
                      clear HI HP3 hO hg hb
                      have HI := HI2
                      clear HI2
                      refine hK.out _ _ (.inr HI.out.cells3) ?_
                      clear hK K
                      try simp only [Act.put, List.setIfInBounds_toArray, List.set_cons_zero, List.set_cons_succ]
                      as_aux_lemma =>
                        obtain ⟨n1, a1, c1, rfl⟩ : ∃ n a c, v1 = .slice a n c := by obtain ⟨a, c, h⟩ := HI.out.ownW.form; exact ⟨_, a, c, h⟩
                        obtain ⟨n2, a2, c2, rfl⟩ : ∃ n a c, v2 = .slice a n c := by obtain ⟨a, c, h⟩ := HI.out.ownT.form; exact ⟨_, a, c, h⟩
                        obtain ⟨n3, a3, c3, rfl⟩ : ∃ n a c, v3 = .slice a n c := by obtain ⟨a, c, h⟩ := (HI.out.fam.own .all v3 (by simp [setRow'])).form; exact ⟨_, a, c, h⟩
                        refine wpTill_ready (rs := [24]) (by kernel_rfl) (by simp) ?_
                        refine AllTill.consT (o := { dst := some 60, op := Op.nilCheck (Operand.tmp 36), type := 0, pos := "", after := #[], guard := none }) (by rfl) rfl (fun K hK => ?_) AllTill.nil
                        go_simp
                        refine hK.out _ _ (.inr HI.out.cells3) ?_
                        clear hK K
                        try simp only [Act.put, List.setIfInBounds_toArray, List.set_cons_zero, List.set_cons_succ]
                        refine wpTill_ready (rs := [25]) (by kernel_rfl) (by simp) ?_
                        refine AllTill.consT (o := { dst := some 61, op := Op.fieldAddr 36 (Operand.tmp 60) 0, type := 0, pos := "", after := #[], guard := none }) (by rfl) rfl (fun K hK => ?_) AllTill.nil
                        go_simp
                        refine hK.out _ _ (.inr HI.out.cells3) ?_
                        clear hK K
                        try simp only [Act.put, List.setIfInBounds_toArray, List.set_cons_zero, List.set_cons_succ]
                        refine wpTill_ready (rs := [26]) (by kernel_rfl) (by simp) ?_
                        refine AllTill.consT (o := { dst := none, op := Op.store 22 (Operand.tmp 61) (Operand.tmp 45), type := 0, pos := "", after := #[], guard := none }) (by rfl) rfl (fun K hK => ?_) AllTill.nil
                        have kc : W70.cell? ⟨w.heap.size + 1 + 1, 0, none⟩ = some vw := HI.out.xblk.cell 0
                        have kf : W70.frozen? ⟨w.heap.size + 1 + 1, 0, none⟩ = false := HI.out.xblk.frozen 0
                        go_simp
                        clear kc kf
                        refine hK.out _ _ (.inl (by kernel_rfl)) ?_
                        clear hK K
                        try simp only [Act.put, List.setIfInBounds_toArray, List.set_cons_zero, List.set_cons_succ]
                        have HSM2 := hide (Mp.set HSM.out HI.out.xblk 0 (.slice a1 n1 c1))
                        clear HSM
                        have HSM := HSM2
                        clear HSM2
                        obtain ⟨cc, hcc, _, hnx⟩ := HI.out.store (.slice a1 n1 c1) 0
                        have HI2 := hide (hnx (.slice a1 n1 c1) vt x2 hcc)
                        clear HI hnx hcc
                        have HI := HI2
                        clear HI2
                        generalize W70.setCell ⟨w.heap.size + 1 + 1, 0, none⟩ (.slice a1 n1 c1) = W71 at HI HSM ⊢
                        refine wpTill_ready (rs := [27]) (by kernel_rfl) (by simp) ?_
                        refine AllTill.consT (o := { dst := some 62, op := Op.nilCheck (Operand.tmp 37), type := 0, pos := "", after := #[], guard := none }) (by rfl) rfl (fun K hK => ?_) AllTill.nil
                        go_simp
                        refine hK.out _ _ (.inl (by kernel_rfl)) ?_
                        clear hK K
                        try simp only [Act.put, List.setIfInBounds_toArray, List.set_cons_zero, List.set_cons_succ]
                        refine wpTill_ready (rs := [28]) (by kernel_rfl) (by simp) ?_
                        refine AllTill.consT (o := { dst := some 63, op := Op.fieldAddr 36 (Operand.tmp 62) 1, type := 0, pos := "", after := #[], guard := none }) (by rfl) rfl (fun K hK => ?_) AllTill.nil
                        go_simp
                        refine hK.out _ _ (.inl (by kernel_rfl)) ?_
                        clear hK K
                        try simp only [Act.put, List.setIfInBounds_toArray, List.set_cons_zero, List.set_cons_succ]
                        refine wpTill_ready (rs := [29]) (by kernel_rfl) (by simp) ?_
                        refine AllTill.consT (o := { dst := none, op := Op.store 22 (Operand.tmp 63) (Operand.tmp 52), type := 0, pos := "", after := #[], guard := none }) (by rfl) rfl (fun K hK => ?_) AllTill.nil
                        have kc : W71.cell? ⟨w.heap.size + 1 + 1, 1, none⟩ = some vt := HI.out.xblk.cell 1
                        have kf : W71.frozen? ⟨w.heap.size + 1 + 1, 1, none⟩ = false := HI.out.xblk.frozen 1
                        go_simp
                        clear kc kf
                        refine hK.out _ _ (.inl (by kernel_rfl)) ?_
                        clear hK K
                        try simp only [Act.put, List.setIfInBounds_toArray, List.set_cons_zero, List.set_cons_succ]
                        have HSM2 := hide (Mp.set HSM.out HI.out.xblk 1 (.slice a2 n2 c2))
                        clear HSM
                        have HSM := HSM2
                        clear HSM2
                        obtain ⟨cc, hcc, _, hnx⟩ := HI.out.store (.slice a2 n2 c2) 1
                        have HI2 := hide (hnx (.slice a1 n1 c1) (.slice a2 n2 c2) x2 hcc)
                        clear HI hnx hcc
                        have HI := HI2
                        clear HI2
                        generalize W71.setCell ⟨w.heap.size + 1 + 1, 1, none⟩ (.slice a2 n2 c2) = W72 at HI HSM ⊢
                        refine wpTill_ready (rs := [30]) (by kernel_rfl) (by simp) ?_
                        refine AllTill.consT (o := { dst := some 64, op := Op.nilCheck (Operand.tmp 38), type := 0, pos := "", after := #[], guard := none }) (by rfl) rfl (fun K hK => ?_) AllTill.nil
                        go_simp
                        refine hK.out _ _ (.inl (by kernel_rfl)) ?_
                        clear hK K
                        try simp only [Act.put, List.setIfInBounds_toArray, List.set_cons_zero, List.set_cons_succ]
                        refine wpTill_ready (rs := [31]) (by kernel_rfl) (by simp) ?_
                        refine AllTill.consT (o := { dst := some 65, op := Op.fieldAddr 36 (Operand.tmp 64) 2, type := 0, pos := "", after := #[], guard := none }) (by rfl) rfl (fun K hK => ?_) AllTill.nil
                        go_simp
                        refine hK.out _ _ (.inl (by kernel_rfl)) ?_
                        clear hK K
                        try simp only [Act.put, List.setIfInBounds_toArray, List.set_cons_zero, List.set_cons_succ]
                        refine wpTill_ready (rs := [32]) (by kernel_rfl) (by simp) ?_
                        refine AllTill.consT (o := { dst := none, op := Op.store 28 (Operand.tmp 65) (Operand.tmp 59), type := 0, pos := "", after := #[], guard := none }) (by rfl) rfl (fun K hK => ?_) AllTill.nil
                        have kc : W72.cell? ⟨w.heap.size + 1 + 1, 2, none⟩ = some x2 := HI.out.xblk.cell 2
                        have kf : W72.frozen? ⟨w.heap.size + 1 + 1, 2, none⟩ = false := HI.out.xblk.frozen 2
                        go_simp
                        clear kc kf
                        refine hK.out _ _ (.inl (by kernel_rfl)) ?_
                        clear hK K
                        try simp only [Act.put, List.setIfInBounds_toArray, List.set_cons_zero, List.set_cons_succ]
                        have HSM2 := hide (Mp.set HSM.out HI.out.xblk 2 (.slice a3 n3 c3))
                        clear HSM
                        have HSM := HSM2
                        clear HSM2
                        obtain ⟨cc, hcc, _, hnx⟩ := HI.out.store (.slice a3 n3 c3) 2
                        have HI2 := hide (hnx (.slice a1 n1 c1) (.slice a2 n2 c2) (.slice a3 n3 c3) hcc)
                        clear HI hnx hcc
                        have HI := HI2
                        clear HI2
                        generalize W72.setCell ⟨w.heap.size + 1 + 1, 2, none⟩ (.slice a3 n3 c3) = W73 at HI HSM ⊢
                        refine wpTill_done (by kernel_rfl) ?_ _
                        go_wp2_with fail
                        go_meet
                        case rel => exact ⟨(.slice a1 n1 c1), (.slice a2 n2 c2), ws ++ [tg], setRow' row .all (.slice a3 n3 c3), fm, lm, HI.out, by simp [hlw], ⟨sm, HSM.out, HSMt.out⟩, hx⟩
                    exact AllTill.nil
                  exact AllTill.nil
                exact AllTill.nil
              refine AllTill.consT (o := { dst := some 58, op := Op.buildSlice 28 1 #[(0, Operand.tmp 57)], type := 28, pos := "", after := #[], guard := none }) (by rfl) rfl (fun K hK => ?_) ?_
              · go_simp
                refine hK.out _ _ (.inr ((HI.out.alloc _).cells3)) ?_
                clear hK K
                try simp only [Act.put, List.setIfInBounds_toArray, List.set_cons_zero, List.set_cons_succ]
                have HP3 := hide (Pn.new HI.out (.int .i64 (low.length : Nat)) 3)
                have HQ1 := hide (HP1.out.alloc (.cells #[.int .i64 (low.length : Nat)] 3))
                clear HP1
                have HP1 := HQ1
                clear HQ1
                have HQ2 := hide (HP2.out.alloc (.cells #[.int .i64 (low.length : Nat)] 3))
                clear HP2
                have HP2 := HQ2
                clear HQ2
                have HI2 := hide (HI.out.alloc (.cells #[.int .i64 (low.length : Nat)] 3))
                clear HI
                have HI := HI2
                clear HI2
                have HSM2 := hide (Mp.alloc' HSM.out (.cells #[.int .i64 (low.length : Nat)] 3))
                clear HSM
                have HSM := HSM2
                clear HSM2
                generalize W60.alloc (.cells #[.int .i64 (low.length : Nat)] 3) = W74 at HP3 HP1 HP2 HI HSM ⊢
                refine wpTill_ready (rs := [9]) (by kernel_rfl) (by simp) ?_
                refine AllTill.consT (o := { dst := some 45, op := Op.call { callee := Callee.builtin Builtin.append, args := #[Operand.tmp 42, Operand.tmp 44], argTypes := #[22, 22] }, type := 22, pos := "", after := #[], guard := none }) (by rfl) rfl (fun K hK => ?_) ?_
                · refine step_append_one rfl _ _ 22 rfl 9 i9 _ 16 Yba.underlying22 hi9 hz9 hs9 hb9 rfl vw _ (by rfl) HI.out.ownW ⟨W59.heap.size, 0, none⟩ (.string (str tg)) (by rfl) HP1.out.cell rfl rfl (by simp [hlw, maxLen]; omega) (by simp [hlw]; omega) ?_
                  intro v1 W75 hO hg hb
                  have HQ2 := hide (HP2.out.appW hg hb.out)
                  clear HP2
                  have HP2 := HQ2
                  clear HQ2
                  have HQ3 := hide (HP3.out.appW hg hb.out)
                  clear HP3
                  have HP3 := HQ3
                  clear HQ3
                  have HSM2 := hide (Mp.grown HSM.out hg (own_cells HI.out.ownW))
                  clear HSM
                  have HSM := HSM2
                  clear HSM2
                  have HI2 := hide (HI.out.appW hO hg hb.out)
                  clear HI HP1 hO hg hb
                  have HI := HI2
                  clear HI2
                  refine hK.out _ _ (.inr HI.out.cells3) ?_
                  clear hK K
                  try simp only [Act.put, List.setIfInBounds_toArray, List.set_cons_zero, List.set_cons_succ]
                  refine wpTill_ready (rs := [16]) (by kernel_rfl) (by simp) ?_
                  refine AllTill.consT (o := { dst := some 52, op := Op.call { callee := Callee.builtin Builtin.append, args := #[Operand.tmp 49, Operand.tmp 51], argTypes := #[22, 22] }, type := 22, pos := "", after := #[], guard := none }) (by rfl) rfl (fun K hK => ?_) ?_
                  · refine step_append_one rfl _ _ 22 rfl 9 i9 _ 16 Yba.underlying22 hi9 hz9 hs9 hb9 rfl vt _ (by rfl) HI.out.ownT ⟨W0.heap.size, 0, none⟩ (.string (str (lwS tg))) (by rfl) HP2.out.cell rfl rfl (by simp [maxLen]; omega) (by simp; omega) ?_
                    intro v2 W76 hO hg hb
                    have HQ3 := hide (HP3.out.appT hg hb.out)
                    clear HP3
                    have HP3 := HQ3
                    clear HQ3
                    have HSM2 := hide (Mp.grown HSM.out hg (own_cells HI.out.ownT))
                    clear HSM
                    have HSM := HSM2
                    clear HSM2
                    have HI2 := hide (HI.out.appT hO hg hb.out)
                    clear HI HP2 hO hg hb
                    have HI := HI2
                    clear HI2
                    refine hK.out _ _ (.inr HI.out.cells3) ?_
                    clear hK K
                    try simp only [Act.put, List.setIfInBounds_toArray, List.set_cons_zero, List.set_cons_succ]
                    refine wpTill_ready (rs := [23]) (by kernel_rfl) (by simp) ?_
                    refine AllTill.consT (o := { dst := some 59, op := Op.call { callee := Callee.builtin Builtin.append, args := #[Operand.tmp 56, Operand.tmp 58], argTypes := #[28, 28] }, type := 28, pos := "", after := #[], guard := none }) (by rfl) rfl (fun K hK => ?_) ?_
                    · refine step_append_one rfl _ _ 28 rfl 3 i3 _ 8 Yba.underlying28 hi3 hz3 hs3 hb3 rfl x2 _ (by rfl) (HX2.out ▸ HI.out.fam.ownD .all) ⟨W60.heap.size, 0, none⟩ (.int .i64 (low.length : Nat)) (by rfl) HP3.out.cell rfl rfl (by simp [conOf, maxLen]; omega) (by simp [conOf]; omega) ?_
                      intro v3 W77 hO hg hb
                      have HSM2 := hide (Mp.grown HSM.out hg (own_cells (HX2.out ▸ HI.out.fam.ownD .all)))
                      clear HSM
                      have HSM := HSM2
                      clear HSM2
                      have HI2 := hide (HI.out.appAll low.length hO (HX2.out ▸ hg) (HX2.out ▸ hb.out))
                      clear HI HP3 hO hg hb
                      have HI := HI2
                      clear HI2
                      refine hK.out _ _ (.inr HI.out.cells3) ?_
                      clear hK K
                      try simp only [Act.put, List.setIfInBounds_toArray, List.set_cons_zero, List.set_cons_succ]
                      as_aux_lemma =>
                        obtain ⟨n1, a1, c1, rfl⟩ : ∃ n a c, v1 = .slice a n c := by obtain ⟨a, c, h⟩ := HI.out.ownW.form; exact ⟨_, a, c, h⟩
                        obtain ⟨n2, a2, c2, rfl⟩ : ∃ n a c, v2 = .slice a n c := by obtain ⟨a, c, h⟩ := HI.out.ownT.form; exact ⟨_, a, c, h⟩
                        obtain ⟨n3, a3, c3, rfl⟩ : ∃ n a c, v3 = .slice a n c := by obtain ⟨a, c, h⟩ := (HI.out.fam.own .all v3 (by simp [setRow'])).form; exact ⟨_, a, c, h⟩
                        refine wpTill_ready (rs := [24]) (by kernel_rfl) (by simp) ?_
                        refine AllTill.consT (o := { dst := some 60, op := Op.nilCheck (Operand.tmp 36), type := 0, pos := "", after := #[], guard := none }) (by rfl) rfl (fun K hK => ?_) AllTill.nil
                        go_simp
                        refine hK.out _ _ (.inr HI.out.cells3) ?_
                        clear hK K
                        try simp only [Act.put, List.setIfInBounds_toArray, List.set_cons_zero, List.set_cons_succ]
                        refine wpTill_ready (rs := [25]) (by kernel_rfl) (by simp) ?_
                        refine AllTill.consT (o := { dst := some 61, op := Op.fieldAddr 36 (Operand.tmp 60) 0, type := 0, pos := "", after := #[], guard := none }) (by rfl) rfl (fun K hK => ?_) AllTill.nil
                        go_simp
                        refine hK.out _ _ (.inr HI.out.cells3) ?_
                        clear hK K
                        try simp only [Act.put, List.setIfInBounds_toArray, List.set_cons_zero, List.set_cons_succ]
                        refine wpTill_ready (rs := [26]) (by kernel_rfl) (by simp) ?_
                        refine AllTill.consT (o := { dst := none, op := Op.store 22 (Operand.tmp 61) (Operand.tmp 45), type := 0, pos := "", after := #[], guard := none }) (by rfl) rfl (fun K hK => ?_) AllTill.nil
                        have kc : W77.cell? ⟨w.heap.size + 1 + 1, 0, none⟩ = some vw := HI.out.xblk.cell 0
                        have kf : W77.frozen? ⟨w.heap.size + 1 + 1, 0, none⟩ = false := HI.out.xblk.frozen 0
                        go_simp
                        clear kc kf
                        refine hK.out _ _ (.inl (by kernel_rfl)) ?_
                        clear hK K
                        try simp only [Act.put, List.setIfInBounds_toArray, List.set_cons_zero, List.set_cons_succ]
                        have HSM2 := hide (Mp.set HSM.out HI.out.xblk 0 (.slice a1 n1 c1))
                        clear HSM
                        have HSM := HSM2
                        clear HSM2
                        obtain ⟨cc, hcc, _, hnx⟩ := HI.out.store (.slice a1 n1 c1) 0
                        have HI2 := hide (hnx (.slice a1 n1 c1) vt x2 hcc)
                        clear HI hnx hcc
                        have HI := HI2
                        clear HI2
                        generalize W77.setCell ⟨w.heap.size + 1 + 1, 0, none⟩ (.slice a1 n1 c1) = W78 at HI HSM ⊢
                        refine wpTill_ready (rs := [27]) (by kernel_rfl) (by simp) ?_
                        refine AllTill.consT (o := { dst := some 62, op := Op.nilCheck (Operand.tmp 37), type := 0, pos := "", after := #[], guard := none }) (by rfl) rfl (fun K hK => ?_) AllTill.nil
                        go_simp
                        refine hK.out _ _ (.inl (by kernel_rfl)) ?_
                        clear hK K
                        try simp only [Act.put, List.setIfInBounds_toArray, List.set_cons_zero, List.set_cons_succ]
                        refine wpTill_ready (rs := [28]) (by kernel_rfl) (by simp) ?_
                        refine AllTill.consT (o := { dst := some 63, op := Op.fieldAddr 36 (Operand.tmp 62) 1, type := 0, pos := "", after := #[], guard := none }) (by rfl) rfl (fun K hK => ?_) AllTill.nil
                        go_simp
                        refine hK.out _ _ (.inl (by kernel_rfl)) ?_
                        clear hK K
                        try simp only [Act.put, List.setIfInBounds_toArray, List.set_cons_zero, List.set_cons_succ]
                        refine wpTill_ready (rs := [29]) (by kernel_rfl) (by simp) ?_
                        refine AllTill.consT (o := { dst := none, op := Op.store 22 (Operand.tmp 63) (Operand.tmp 52), type := 0, pos := "", after := #[], guard := none }) (by rfl) rfl (fun K hK => ?_) AllTill.nil
                        have kc : W78.cell? ⟨w.heap.size + 1 + 1, 1, none⟩ = some vt := HI.out.xblk.cell 1
                        have kf : W78.frozen? ⟨w.heap.size + 1 + 1, 1, none⟩ = false := HI.out.xblk.frozen 1
                        go_simp
                        clear kc kf
                        refine hK.out _ _ (.inl (by kernel_rfl)) ?_
                        clear hK K
                        try simp only [Act.put, List.setIfInBounds_toArray, List.set_cons_zero, List.set_cons_succ]
                        have HSM2 := hide (Mp.set HSM.out HI.out.xblk 1 (.slice a2 n2 c2))
                        clear HSM
                        have HSM := HSM2
                        clear HSM2
                        obtain ⟨cc, hcc, _, hnx⟩ := HI.out.store (.slice a2 n2 c2) 1
                        have HI2 := hide (hnx (.slice a1 n1 c1) (.slice a2 n2 c2) x2 hcc)
                        clear HI hnx hcc
                        have HI := HI2
                        clear HI2
                        generalize W78.setCell ⟨w.heap.size + 1 + 1, 1, none⟩ (.slice a2 n2 c2) = W79 at HI HSM ⊢
                        refine wpTill_ready (rs := [30]) (by kernel_rfl) (by simp) ?_
                        refine AllTill.consT (o := { dst := some 64, op := Op.nilCheck (Operand.tmp 38), type := 0, pos := "", after := #[], guard := none }) (by rfl) rfl (fun K hK => ?_) AllTill.nil
                        go_simp
                        refine hK.out _ _ (.inl (by kernel_rfl)) ?_
                        clear hK K
                        try simp only [Act.put, List.setIfInBounds_toArray, List.set_cons_zero, List.set_cons_succ]
                        refine wpTill_ready (rs := [31]) (by kernel_rfl) (by simp) ?_
                        refine AllTill.consT (o := { dst := some 65, op := Op.fieldAddr 36 (Operand.tmp 64) 2, type := 0, pos := "", after := #[], guard := none }) (by rfl) rfl (fun K hK => ?_) AllTill.nil
                        go_simp
                        refine hK.out _ _ (.inl (by kernel_rfl)) ?_
                        clear hK K
                        try simp only [Act.put, List.setIfInBounds_toArray, List.set_cons_zero, List.set_cons_succ]
                        refine wpTill_ready (rs := [32]) (by kernel_rfl) (by simp) ?_
                        refine AllTill.consT (o := { dst := none, op := Op.store 28 (Operand.tmp 65) (Operand.tmp 59), type := 0, pos := "", after := #[], guard := none }) (by rfl) rfl (fun K hK => ?_) AllTill.nil
                        have kc : W79.cell? ⟨w.heap.size + 1 + 1, 2, none⟩ = some x2 := HI.out.xblk.cell 2
                        have kf : W79.frozen? ⟨w.heap.size + 1 + 1, 2, none⟩ = false := HI.out.xblk.frozen 2
                        go_simp
                        clear kc kf
                        refine hK.out _ _ (.inl (by kernel_rfl)) ?_
                        clear hK K
                        try simp only [Act.put, List.setIfInBounds_toArray, List.set_cons_zero, List.set_cons_succ]
                        have HSM2 := hide (Mp.set HSM.out HI.out.xblk 2 (.slice a3 n3 c3))
                        clear HSM
                        have HSM := HSM2
                        clear HSM2
                        obtain ⟨cc, hcc, _, hnx⟩ := HI.out.store (.slice a3 n3 c3) 2
                        have HI2 := hide (hnx (.slice a1 n1 c1) (.slice a2 n2 c2) (.slice a3 n3 c3) hcc)
                        clear HI hnx hcc
                        have HI := HI2
                        clear HI2
                        generalize W79.setCell ⟨w.heap.size + 1 + 1, 2, none⟩ (.slice a3 n3 c3) = W80 at HI HSM ⊢
                        refine wpTill_done (by kernel_rfl) ?_ _
                        go_wp2_with fail
                        go_meet
                        case rel => exact ⟨(.slice a1 n1 c1), (.slice a2 n2 c2), ws ++ [tg], setRow' row .all (.slice a3 n3 c3), fm, lm, HI.out, by simp [hlw], ⟨sm, HSM.out, HSMt.out⟩, hx⟩
                    exact AllTill.nil
                  exact AllTill.nil
                exact AllTill.nil
              exact AllTill.nil
            refine AllTill.consT (o := { dst := some 58, op := Op.buildSlice 28 1 #[(0, Operand.tmp 57)], type := 28, pos := "", after := #[], guard := none }) (by rfl) rfl (fun K hK => ?_) ?_
            · go_simp
              refine hK.out _ _ (.inr ((HI.out.alloc _).cells3)) ?_
              clear hK K
              try simp only [Act.put, List.setIfInBounds_toArray, List.set_cons_zero, List.set_cons_succ]
              have HP3 := hide (Pn.new HI.out (.int .i64 (low.length : Nat)) 3)
              have HQ2 := hide (HP2.out.alloc (.cells #[.int .i64 (low.length : Nat)] 3))
              clear HP2
              have HP2 := HQ2
              clear HQ2
              have HI2 := hide (HI.out.alloc (.cells #[.int .i64 (low.length : Nat)] 3))
              clear HI
              have HI := HI2
              clear HI2
              have HSM2 := hide (Mp.alloc' HSM.out (.cells #[.int .i64 (low.length : Nat)] 3))
              clear HSM
              have HSM := HSM2
              clear HSM2
              generalize W59.alloc (.cells #[.int .i64 (low.length : Nat)] 3) = W81 at HP3 HP2 HI HSM ⊢
              refine wpTill_ready (rs := [8]) (by kernel_rfl) (by simp) ?_
              refine AllTill.consT (o := { dst := some 44, op := Op.buildSlice 22 1 #[(0, Operand.tmp 43)], type := 22, pos := "", after := #[], guard := none }) (by rfl) rfl (fun K hK => ?_) ?_
              · go_simp
                refine hK.out _ _ (.inr ((HI.out.alloc _).cells3)) ?_
                clear hK K
                try simp only [Act.put, List.setIfInBounds_toArray, List.set_cons_zero, List.set_cons_succ]
                have HP1 := hide (Pn.new HI.out (.string (str tg)) 9)
                have HQ2 := hide (HP2.out.alloc (.cells #[.string (str tg)] 9))
                clear HP2
                have HP2 := HQ2
                clear HQ2
                have HQ3 := hide (HP3.out.alloc (.cells #[.string (str tg)] 9))
                clear HP3
                have HP3 := HQ3
                clear HQ3
                have HI2 := hide (HI.out.alloc (.cells #[.string (str tg)] 9))
                clear HI
                have HI := HI2
                clear HI2
                have HSM2 := hide (Mp.alloc' HSM.out (.cells #[.string (str tg)] 9))
                clear HSM
                have HSM := HSM2
                clear HSM2
                generalize W81.alloc (.cells #[.string (str tg)] 9) = W82 at HP1 HP2 HP3 HI HSM ⊢
                refine wpTill_ready (rs := [9]) (by kernel_rfl) (by simp) ?_
                refine AllTill.consT (o := { dst := some 45, op := Op.call { callee := Callee.builtin Builtin.append, args := #[Operand.tmp 42, Operand.tmp 44], argTypes := #[22, 22] }, type := 22, pos := "", after := #[], guard := none }) (by rfl) rfl (fun K hK => ?_) ?_
                · refine step_append_one rfl _ _ 22 rfl 9 i9 _ 16 Yba.underlying22 hi9 hz9 hs9 hb9 rfl vw _ (by rfl) HI.out.ownW ⟨W81.heap.size, 0, none⟩ (.string (str tg)) (by rfl) HP1.out.cell rfl rfl (by simp [hlw, maxLen]; omega) (by simp [hlw]; omega) ?_
                  intro v1 W83 hO hg hb
                  have HQ2 := hide (HP2.out.appW hg hb.out)
                  clear HP2
                  have HP2 := HQ2
                  clear HQ2
                  have HQ3 := hide (HP3.out.appW hg hb.out)
                  clear HP3
                  have HP3 := HQ3
                  clear HQ3
                  have HSM2 := hide (Mp.grown HSM.out hg (own_cells HI.out.ownW))
                  clear HSM
                  have HSM := HSM2
                  clear HSM2
                  have HI2 := hide (HI.out.appW hO hg hb.out)
                  clear HI HP1 hO hg hb
                  have HI := HI2
                  clear HI2
                  refine hK.out _ _ (.inr HI.out.cells3) ?_
                  clear hK K
                  try simp only [Act.put, List.setIfInBounds_toArray, List.set_cons_zero, List.set_cons_succ]
                  refine wpTill_ready (rs := [16]) (by kernel_rfl) (by simp) ?_
                  refine AllTill.consT (o := { dst := some 52, op := Op.call { callee := Callee.builtin Builtin.append, args := #[Operand.tmp 49, Operand.tmp 51], argTypes := #[22, 22] }, type := 22, pos := "", after := #[], guard := none }) (by rfl) rfl (fun K hK => ?_) ?_
                  · refine step_append_one rfl _ _ 22 rfl 9 i9 _ 16 Yba.underlying22 hi9 hz9 hs9 hb9 rfl vt _ (by rfl) HI.out.ownT ⟨W0.heap.size, 0, none⟩ (.string (str (lwS tg))) (by rfl) HP2.out.cell rfl rfl (by simp [maxLen]; omega) (by simp; omega) ?_
                    intro v2 W84 hO hg hb
                    have HQ3 := hide (HP3.out.appT hg hb.out)
                    clear HP3
                    have HP3 := HQ3
                    clear HQ3
                    have HSM2 := hide (Mp.grown HSM.out hg (own_cells HI.out.ownT))
                    clear HSM
                    have HSM := HSM2
                    clear HSM2
                    have HI2 := hide (HI.out.appT hO hg hb.out)
                    clear HI HP2 hO hg hb
                    have HI := HI2
                    clear HI2
                    refine hK.out _ _ (.inr HI.out.cells3) ?_
                    clear hK K
                    try simp only [Act.put, List.setIfInBounds_toArray, List.set_cons_zero, List.set_cons_succ]
                    refine wpTill_ready (rs := [23]) (by kernel_rfl) (by simp) ?_
                    refine AllTill.consT (o := { dst := some 59, op := Op.call { callee := Callee.builtin Builtin.append, args := #[Operand.tmp 56, Operand.tmp 58], argTypes := #[28, 28] }, type := 28, pos := "", after := #[], guard := none }) (by rfl) rfl (fun K hK => ?_) ?_
                    · refine step_append_one rfl _ _ 28 rfl 3 i3 _ 8 Yba.underlying28 hi3 hz3 hs3 hb3 rfl x2 _ (by rfl) (HX2.out ▸ HI.out.fam.ownD .all) ⟨W59.heap.size, 0, none⟩ (.int .i64 (low.length : Nat)) (by rfl) HP3.out.cell rfl rfl (by simp [conOf, maxLen]; omega) (by simp [conOf]; omega) ?_
                      intro v3 W85 hO hg hb
                      have HSM2 := hide (Mp.grown HSM.out hg (own_cells (HX2.out ▸ HI.out.fam.ownD .all)))
                      clear HSM
                      have HSM := HSM2
                      clear HSM2
                      have HI2 := hide (HI.out.appAll low.length hO (HX2.out ▸ hg) (HX2.out ▸ hb.out))
                      clear HI HP3 hO hg hb
                      have HI := HI2
                      clear HI2
                      refine hK.out _ _ (.inr HI.out.cells3) ?_
                      clear hK K
                      try simp only [Act.put, List.setIfInBounds_toArray, List.set_cons_zero, List.set_cons_succ]
                      as_aux_lemma =>
                        obtain ⟨n1, a1, c1, rfl⟩ : ∃ n a c, v1 = .slice a n c := by obtain ⟨a, c, h⟩ := HI.out.ownW.form; exact ⟨_, a, c, h⟩
                        obtain ⟨n2, a2, c2, rfl⟩ : ∃ n a c, v2 = .slice a n c := by obtain ⟨a, c, h⟩ := HI.out.ownT.form; exact ⟨_, a, c, h⟩
                        obtain ⟨n3, a3, c3, rfl⟩ : ∃ n a c, v3 = .slice a n c := by obtain ⟨a, c, h⟩ := (HI.out.fam.own .all v3 (by simp [setRow'])).form; exact ⟨_, a, c, h⟩
                        refine wpTill_ready (rs := [24]) (by kernel_rfl) (by simp) ?_
                        refine AllTill.consT (o := { dst := some 60, op := Op.nilCheck (Operand.tmp 36), type := 0, pos := "", after := #[], guard := none }) (by rfl) rfl (fun K hK => ?_) AllTill.nil
                        go_simp
                        refine hK.out _ _ (.inr HI.out.cells3) ?_
                        clear hK K
                        try simp only [Act.put, List.setIfInBounds_toArray, List.set_cons_zero, List.set_cons_succ]
                        refine wpTill_ready (rs := [25]) (by kernel_rfl) (by simp) ?_
                        refine AllTill.consT (o := { dst := some 61, op := Op.fieldAddr 36 (Operand.tmp 60) 0, type := 0, pos := "", after := #[], guard := none }) (by rfl) rfl (fun K hK => ?_) AllTill.nil
                        go_simp
                        refine hK.out _ _ (.inr HI.out.cells3) ?_
                        clear hK K
                        try simp only [Act.put, List.setIfInBounds_toArray, List.set_cons_zero, List.set_cons_succ]
                        refine wpTill_ready (rs := [26]) (by kernel_rfl) (by simp) ?_
                        refine AllTill.consT (o := { dst := none, op := Op.store 22 (Operand.tmp 61) (Operand.tmp 45), type := 0, pos := "", after := #[], guard := none }) (by rfl) rfl (fun K hK => ?_) AllTill.nil
                        have kc : W85.cell? ⟨w.heap.size + 1 + 1, 0, none⟩ = some vw := HI.out.xblk.cell 0
                        have kf : W85.frozen? ⟨w.heap.size + 1 + 1, 0, none⟩ = false := HI.out.xblk.frozen 0
                        go_simp
                        clear kc kf
                        refine hK.out _ _ (.inl (by kernel_rfl)) ?_
                        clear hK K
                        try simp only [Act.put, List.setIfInBounds_toArray, List.set_cons_zero, List.set_cons_succ]
                        have HSM2 := hide (Mp.set HSM.out HI.out.xblk 0 (.slice a1 n1 c1))
                        clear HSM
                        have HSM := HSM2
                        clear HSM2
                        obtain ⟨cc, hcc, _, hnx⟩ := HI.out.store (.slice a1 n1 c1) 0
                        have HI2 := hide (hnx (.slice a1 n1 c1) vt x2 hcc)
                        clear HI hnx hcc
                        have HI := HI2
                        clear HI2
                        generalize W85.setCell ⟨w.heap.size + 1 + 1, 0, none⟩ (.slice a1 n1 c1) = W86 at HI HSM ⊢
                        refine wpTill_ready (rs := [27]) (by kernel_rfl) (by simp) ?_
                        refine AllTill.consT (o := { dst := some 62, op := Op.nilCheck (Operand.tmp 37), type := 0, pos := "", after := #[], guard := none }) (by rfl) rfl (fun K hK => ?_) AllTill.nil
                        go_simp
                        refine hK.out _ _ (.inl (by kernel_rfl)) ?_
                        clear hK K
                        try simp only [Act.put, List.setIfInBounds_toArray, List.set_cons_zero, List.set_cons_succ]
                        refine wpTill_ready (rs := [28]) (by kernel_rfl) (by simp) ?_
                        refine AllTill.consT (o := { dst := some 63, op := Op.fieldAddr 36 (Operand.tmp 62) 1, type := 0, pos := "", after := #[], guard := none }) (by rfl) rfl (fun K hK => ?_) AllTill.nil
                        go_simp
                        refine hK.out _ _ (.inl (by kernel_rfl)) ?_
                        clear hK K
                        try simp only [Act.put, List.setIfInBounds_toArray, List.set_cons_zero, List.set_cons_succ]
                        refine wpTill_ready (rs := [29]) (by kernel_rfl) (by simp) ?_
                        refine AllTill.consT (o := { dst := none, op := Op.store 22 (Operand.tmp 63) (Operand.tmp 52), type := 0, pos := "", after := #[], guard := none }) (by rfl) rfl (fun K hK => ?_) AllTill.nil
                        have kc : W86.cell? ⟨w.heap.size + 1 + 1, 1, none⟩ = some vt := HI.out.xblk.cell 1
                        have kf : W86.frozen? ⟨w.heap.size + 1 + 1, 1, none⟩ = false := HI.out.xblk.frozen 1
                        go_simp
                        clear kc kf
                        refine hK.out _ _ (.inl (by kernel_rfl)) ?_
                        clear hK K
                        try simp only [Act.put, List.setIfInBounds_toArray, List.set_cons_zero, List.set_cons_succ]
                        have HSM2 := hide (Mp.set HSM.out HI.out.xblk 1 (.slice a2 n2 c2))
                        clear HSM
                        have HSM := HSM2
                        clear HSM2
                        obtain ⟨cc, hcc, _, hnx⟩ := HI.out.store (.slice a2 n2 c2) 1
                        have HI2 := hide (hnx (.slice a1 n1 c1) (.slice a2 n2 c2) x2 hcc)
                        clear HI hnx hcc
                        have HI := HI2
                        clear HI2
                        generalize W86.setCell ⟨w.heap.size + 1 + 1, 1, none⟩ (.slice a2 n2 c2) = W87 at HI HSM ⊢
                        refine wpTill_ready (rs := [30]) (by kernel_rfl) (by simp) ?_
                        refine AllTill.consT (o := { dst := some 64, op := Op.nilCheck (Operand.tmp 38), type := 0, pos := "", after := #[], guard := none }) (by rfl) rfl (fun K hK => ?_) AllTill.nil
                        go_simp
                        refine hK.out _ _ (.inl (by kernel_rfl)) ?_
                        clear hK K
                        try simp only [Act.put, List.setIfInBounds_toArray, List.set_cons_zero, List.set_cons_succ]
                        refine wpTill_ready (rs := [31]) (by kernel_rfl) (by simp) ?_
                        refine AllTill.consT (o := { dst := some 65, op := Op.fieldAddr 36 (Operand.tmp 64) 2, type := 0, pos := "", after := #[], guard := none }) (by rfl) rfl (fun K hK => ?_) AllTill.nil
                        go_simp
                        refine hK.out _ _ (.inl (by kernel_rfl)) ?_
                        clear hK K
                        try simp only [Act.put, List.setIfInBounds_toArray, List.set_cons_zero, List.set_cons_succ]
                        refine wpTill_ready (rs := [32]) (by kernel_rfl) (by simp) ?_
                        refine AllTill.consT (o := { dst := none, op := Op.store 28 (Operand.tmp 65) (Operand.tmp 59), type := 0, pos := "", after := #[], guard := none }) (by rfl) rfl (fun K hK => ?_) AllTill.nil
                        have kc : W87.cell? ⟨w.heap.size + 1 + 1, 2, none⟩ = some x2 := HI.out.xblk.cell 2
                        have kf : W87.frozen? ⟨w.heap.size + 1 + 1, 2, none⟩ = false := HI.out.xblk.frozen 2
                        go_simp
                        clear kc kf
                        refine hK.out _ _ (.inl (by kernel_rfl)) ?_
                        clear hK K
                        try simp only [Act.put, List.setIfInBounds_toArray, List.set_cons_zero, List.set_cons_succ]
                        have HSM2 := hide (Mp.set HSM.out HI.out.xblk 2 (.slice a3 n3 c3))
                        clear HSM
                        have HSM := HSM2
                        clear HSM2
                        obtain ⟨cc, hcc, _, hnx⟩ := HI.out.store (.slice a3 n3 c3) 2
                        have HI2 := hide (hnx (.slice a1 n1 c1) (.slice a2 n2 c2) (.slice a3 n3 c3) hcc)
                        clear HI hnx hcc
                        have HI := HI2
                        clear HI2
                        generalize W87.setCell ⟨w.heap.size + 1 + 1, 2, none⟩ (.slice a3 n3 c3) = W88 at HI HSM ⊢
                        refine wpTill_done (by kernel_rfl) ?_ _
                        go_wp2_with fail
                        go_meet
                        case rel => exact ⟨(.slice a1 n1 c1), (.slice a2 n2 c2), ws ++ [tg], setRow' row .all (.slice a3 n3 c3), fm, lm, HI.out, by simp [hlw], ⟨sm, HSM.out, HSMt.out⟩, hx⟩
                    exact AllTill.nil
                  exact AllTill.nil
                exact AllTill.nil
              exact AllTill.nil
            exact AllTill.nil
          refine AllTill.consT (o := { dst := some 58, op := Op.buildSlice 28 1 #[(0, Operand.tmp 57)], type := 28, pos := "", after := #[], guard := none }) (by rfl) rfl (fun K hK => ?_) ?_
          · go_simp
            refine hK.out _ _ (.inr ((HI.out.alloc _).cells3)) ?_
            clear hK K
            try simp only [Act.put, List.setIfInBounds_toArray, List.set_cons_zero, List.set_cons_succ]
            have HP3 := hide (Pn.new HI.out (.int .i64 (low.length : Nat)) 3)
            have HI2 := hide (HI.out.alloc (.cells #[.int .i64 (low.length : Nat)] 3))
            clear HI
            have HI := HI2
            clear HI2
            have HSM2 := hide (Mp.alloc' HSM.out (.cells #[.int .i64 (low.length : Nat)] 3))
            clear HSM
            have HSM := HSM2
            clear HSM2
            generalize W0.alloc (.cells #[.int .i64 (low.length : Nat)] 3) = W89 at HP3 HI HSM ⊢
            refine wpTill_ready (rs := [8, 15]) (by kernel_rfl) (by simp) ?_
            refine AllTill.consT (o := { dst := some 44, op := Op.buildSlice 22 1 #[(0, Operand.tmp 43)], type := 22, pos := "", after := #[], guard := none }) (by rfl) rfl (fun K hK => ?_) ?_
            · go_simp
              refine hK.out _ _ (.inr ((HI.out.alloc _).cells3)) ?_
              clear hK K
              try simp only [Act.put, List.setIfInBounds_toArray, List.set_cons_zero, List.set_cons_succ]
              have HP1 := hide (Pn.new HI.out (.string (str tg)) 9)
              have HQ3 := hide (HP3.out.alloc (.cells #[.string (str tg)] 9))
              clear HP3
              have HP3 := HQ3
              clear HQ3
              have HI2 := hide (HI.out.alloc (.cells #[.string (str tg)] 9))
              clear HI
              have HI := HI2
              clear HI2
              have HSM2 := hide (Mp.alloc' HSM.out (.cells #[.string (str tg)] 9))
              clear HSM
              have HSM := HSM2
              clear HSM2
              generalize W89.alloc (.cells #[.string (str tg)] 9) = W90 at HP1 HP3 HI HSM ⊢
              refine wpTill_ready (rs := [9, 15]) (by kernel_rfl) (by simp) ?_
              refine AllTill.consT (o := { dst := some 45, op := Op.call { callee := Callee.builtin Builtin.append, args := #[Operand.tmp 42, Operand.tmp 44], argTypes := #[22, 22] }, type := 22, pos := "", after := #[], guard := none }) (by rfl) rfl (fun K hK => ?_) ?_
              · refine step_append_one rfl _ _ 22 rfl 9 i9 _ 16 Yba.underlying22 hi9 hz9 hs9 hb9 rfl vw _ (by rfl) HI.out.ownW ⟨W89.heap.size, 0, none⟩ (.string (str tg)) (by rfl) HP1.out.cell rfl rfl (by simp [hlw, maxLen]; omega) (by simp [hlw]; omega) ?_
                intro v1 W91 hO hg hb
                have HQ3 := hide (HP3.out.appW hg hb.out)
                clear HP3
                have HP3 := HQ3
                clear HQ3
                have HSM2 := hide (Mp.grown HSM.out hg (own_cells HI.out.ownW))
                clear HSM
                have HSM := HSM2
                clear HSM2
                have HI2 := hide (HI.out.appW hO hg hb.out)
                clear HI HP1 hO hg hb
                have HI := HI2
                clear HI2
                refine hK.out _ _ (.inr HI.out.cells3) ?_
                clear hK K
                try simp only [Act.put, List.setIfInBounds_toArray, List.set_cons_zero, List.set_cons_succ]
                refine wpTill_ready (rs := [15]) (by kernel_rfl) (by simp) ?_
                refine AllTill.consT (o := { dst := some 51, op := Op.buildSlice 22 1 #[(0, Operand.tmp 50)], type := 22, pos := "", after := #[], guard := none }) (by rfl) rfl (fun K hK => ?_) ?_
                · go_simp
                  refine hK.out _ _ (.inr ((HI.out.alloc _).cells3)) ?_
                  clear hK K
                  try simp only [Act.put, List.setIfInBounds_toArray, List.set_cons_zero, List.set_cons_succ]
                  have HP2 := hide (Pn.new HI.out (.string (str (lwS tg))) 9)
                  have HQ3 := hide (HP3.out.alloc (.cells #[.string (str (lwS tg))] 9))
                  clear HP3
                  have HP3 := HQ3
                  clear HQ3
                  have HI2 := hide (HI.out.alloc (.cells #[.string (str (lwS tg))] 9))
                  clear HI
                  have HI := HI2
                  clear HI2
                  have HSM2 := hide (Mp.alloc' HSM.out (.cells #[.string (str (lwS tg))] 9))
                  clear HSM
                  have HSM := HSM2
                  clear HSM2
                  generalize W91.alloc (.cells #[.string (str (lwS tg))] 9) = W92 at HP2 HP3 HI HSM ⊢
                  refine wpTill_ready (rs := [16]) (by kernel_rfl) (by simp) ?_
                  refine AllTill.consT (o := { dst := some 52, op := Op.call { callee := Callee.builtin Builtin.append, args := #[Operand.tmp 49, Operand.tmp 51], argTypes := #[22, 22] }, type := 22, pos := "", after := #[], guard := none }) (by rfl) rfl (fun K hK => ?_) ?_
                  · refine step_append_one rfl _ _ 22 rfl 9 i9 _ 16 Yba.underlying22 hi9 hz9 hs9 hb9 rfl vt _ (by rfl) HI.out.ownT ⟨W91.heap.size, 0, none⟩ (.string (str (lwS tg))) (by rfl) HP2.out.cell rfl rfl (by simp [maxLen]; omega) (by simp; omega) ?_
                    intro v2 W93 hO hg hb
                    have HQ3 := hide (HP3.out.appT hg hb.out)
                    clear HP3
                    have HP3 := HQ3
                    clear HQ3
                    have HSM2 := hide (Mp.grown HSM.out hg (own_cells HI.out.ownT))
                    clear HSM
                    have HSM := HSM2
                    clear HSM2
                    have HI2 := hide (HI.out.appT hO hg hb.out)
                    clear HI HP2 hO hg hb
                    have HI := HI2
                    clear HI2
                    refine hK.out _ _ (.inr HI.out.cells3) ?_
                    clear hK K
                    try simp only [Act.put, List.setIfInBounds_toArray, List.set_cons_zero, List.set_cons_succ]
                    refine wpTill_ready (rs := [23]) (by kernel_rfl) (by simp) ?_
                    refine AllTill.consT (o := { dst := some 59, op := Op.call { callee := Callee.builtin Builtin.append, args := #[Operand.tmp 56, Operand.tmp 58], argTypes := #[28, 28] }, type := 28, pos := "", after := #[], guard := none }) (by rfl) rfl (fun K hK => ?_) ?_
                    · refine step_append_one rfl _ _ 28 rfl 3 i3 _ 8 Yba.underlying28 hi3 hz3 hs3 hb3 rfl x2 _ (by rfl) (HX2.out ▸ HI.out.fam.ownD .all) ⟨W0.heap.size, 0, none⟩ (.int .i64 (low.length : Nat)) (by rfl) HP3.out.cell rfl rfl (by simp [conOf, maxLen]; omega) (by simp [conOf]; omega) ?_
                      intro v3 W94 hO hg hb
                      have HSM2 := hide (Mp.grown HSM.out hg (own_cells (HX2.out ▸ HI.out.fam.ownD .all)))
                      clear HSM
                      have HSM := HSM2
                      clear HSM2
                      have HI2 := hide (HI.out.appAll low.length hO (HX2.out ▸ hg) (HX2.out ▸ hb.out))
                      clear HI HP3 hO hg hb
                      have HI := HI2
                      clear HI2
                      refine hK.out _ _ (.inr HI.out.cells3) ?_
                      clear hK K
                      try simp only [Act.put, List.setIfInBounds_toArray, List.set_cons_zero, List.set_cons_succ]
                      as_aux_lemma =>
                        obtain ⟨n1, a1, c1, rfl⟩ : ∃ n a c, v1 = .slice a n c := by obtain ⟨a, c, h⟩ := HI.out.ownW.form; exact ⟨_, a, c, h⟩
                        obtain ⟨n2, a2, c2, rfl⟩ : ∃ n a c, v2 = .slice a n c := by obtain ⟨a, c, h⟩ := HI.out.ownT.form; exact ⟨_, a, c, h⟩
                        obtain ⟨n3, a3, c3, rfl⟩ : ∃ n a c, v3 = .slice a n c := by obtain ⟨a, c, h⟩ := (HI.out.fam.own .all v3 (by simp [setRow'])).form; exact ⟨_, a, c, h⟩
                        refine wpTill_ready (rs := [24]) (by kernel_rfl) (by simp) ?_
                        refine AllTill.consT (o := { dst := some 60, op := Op.nilCheck (Operand.tmp 36), type := 0, pos := "", after := #[], guard := none }) (by rfl) rfl (fun K hK => ?_) AllTill.nil
                        go_simp
                        refine hK.out _ _ (.inr HI.out.cells3) ?_
                        clear hK K
                        try simp only [Act.put, List.setIfInBounds_toArray, List.set_cons_zero, List.set_cons_succ]
                        refine wpTill_ready (rs := [25]) (by kernel_rfl) (by simp) ?_
                        refine AllTill.consT (o := { dst := some 61, op := Op.fieldAddr 36 (Operand.tmp 60) 0, type := 0, pos := "", after := #[], guard := none }) (by rfl) rfl (fun K hK => ?_) AllTill.nil
                        go_simp
                        refine hK.out _ _ (.inr HI.out.cells3) ?_
                        clear hK K
                        try simp only [Act.put, List.setIfInBounds_toArray, List.set_cons_zero, List.set_cons_succ]
                        refine wpTill_ready (rs := [26]) (by kernel_rfl) (by simp) ?_
                        refine AllTill.consT (o := { dst := none, op := Op.store 22 (Operand.tmp 61) (Operand.tmp 45), type := 0, pos := "", after := #[], guard := none }) (by rfl) rfl (fun K hK => ?_) AllTill.nil
                        have kc : W94.cell? ⟨w.heap.size + 1 + 1, 0, none⟩ = some vw := HI.out.xblk.cell 0
                        have kf : W94.frozen? ⟨w.heap.size + 1 + 1, 0, none⟩ = false := HI.out.xblk.frozen 0
                        go_simp
                        clear kc kf
                        refine hK.out _ _ (.inl (by kernel_rfl)) ?_
                        clear hK K
                        try simp only [Act.put, List.setIfInBounds_toArray, List.set_cons_zero, List.set_cons_succ]
                        have HSM2 := hide (Mp.set HSM.out HI.out.xblk 0 (.slice a1 n1 c1))
                        clear HSM
                        have HSM := HSM2
                        clear HSM2
                        obtain ⟨cc, hcc, _, hnx⟩ := HI.out.store (.slice a1 n1 c1) 0
                        have HI2 := hide (hnx (.slice a1 n1 c1) vt x2 hcc)
                        clear HI hnx hcc
                        have HI := HI2
                        clear HI2
                        generalize W94.setCell ⟨w.heap.size + 1 + 1, 0, none⟩ (.slice a1 n1 c1) = W95 at HI HSM ⊢
                        refine wpTill_ready (rs := [27]) (by kernel_rfl) (by simp) ?_
                        refine AllTill.consT (o := { dst := some 62, op := Op.nilCheck (Operand.tmp 37), type := 0, pos := "", after := #[], guard := none }) (by rfl) rfl (fun K hK => ?_) AllTill.nil
                        go_simp
                        refine hK.out _ _ (.inl (by kernel_rfl)) ?_
                        clear hK K
                        try simp only [Act.put, List.setIfInBounds_toArray, List.set_cons_zero, List.set_cons_succ]
                        refine wpTill_ready (rs := [28]) (by kernel_rfl) (by simp) ?_
                        refine AllTill.consT (o := { dst := some 63, op := Op.fieldAddr 36 (Operand.tmp 62) 1, type := 0, pos := "", after := #[], guard := none }) (by rfl) rfl (fun K hK => ?_) AllTill.nil
                        go_simp
                        refine hK.out _ _ (.inl (by kernel_rfl)) ?_
                        clear hK K
                        try simp only [Act.put, List.setIfInBounds_toArray, List.set_cons_zero, List.set_cons_succ]
                        refine wpTill_ready (rs := [29]) (by kernel_rfl) (by simp) ?_
                        refine AllTill.consT (o := { dst := none, op := Op.store 22 (Operand.tmp 63) (Operand.tmp 52), type := 0, pos := "", after := #[], guard := none }) (by rfl) rfl (fun K hK => ?_) AllTill.nil
                        have kc : W95.cell? ⟨w.heap.size + 1 + 1, 1, none⟩ = some vt := HI.out.xblk.cell 1
                        have kf : W95.frozen? ⟨w.heap.size + 1 + 1, 1, none⟩ = false := HI.out.xblk.frozen 1
                        go_simp
                        clear kc kf
                        refine hK.out _ _ (.inl (by kernel_rfl)) ?_
                        clear hK K
                        try simp only [Act.put, List.setIfInBounds_toArray, List.set_cons_zero, List.set_cons_succ]
                        have HSM2 := hide (Mp.set HSM.out HI.out.xblk 1 (.slice a2 n2 c2))
                        clear HSM
                        have HSM := HSM2
                        clear HSM2
                        obtain ⟨cc, hcc, _, hnx⟩ := HI.out.store (.slice a2 n2 c2) 1
                        have HI2 := hide (hnx (.slice a1 n1 c1) (.slice a2 n2 c2) x2 hcc)
                        clear HI hnx hcc
                        have HI := HI2
                        clear HI2
                        generalize W95.setCell ⟨w.heap.size + 1 + 1, 1, none⟩ (.slice a2 n2 c2) = W96 at HI HSM ⊢
                        refine wpTill_ready (rs := [30]) (by kernel_rfl) (by simp) ?_
                        refine AllTill.consT (o := { dst := some 64, op := Op.nilCheck (Operand.tmp 38), type := 0, pos := "", after := #[], guard := none }) (by rfl) rfl (fun K hK => ?_) AllTill.nil
                        go_simp
                        refine hK.out _ _ (.inl (by kernel_rfl)) ?_
                        clear hK K
                        try simp only [Act.put, List.setIfInBounds_toArray, List.set_cons_zero, List.set_cons_succ]
                        refine wpTill_ready (rs := [31]) (by kernel_rfl) (by simp) ?_
                        refine AllTill.consT (o := { dst := some 65, op := Op.fieldAddr 36 (Operand.tmp 64) 2, type := 0, pos := "", after := #[], guard := none }) (by rfl) rfl (fun K hK => ?_) AllTill.nil
                        go_simp
                        refine hK.out _ _ (.inl (by kernel_rfl)) ?_
                        clear hK K
                        try simp only [Act.put, List.setIfInBounds_toArray, List.set_cons_zero, List.set_cons_succ]
                        refine wpTill_ready (rs := [32]) (by kernel_rfl) (by simp) ?_
                        refine AllTill.consT (o := { dst := none, op := Op.store 28 (Operand.tmp 65) (Operand.tmp 59), type := 0, pos := "", after := #[], guard := none }) (by rfl) rfl (fun K hK => ?_) AllTill.nil
                        have kc : W96.cell? ⟨w.heap.size + 1 + 1, 2, none⟩ = some x2 := HI.out.xblk.cell 2
                        have kf : W96.frozen? ⟨w.heap.size + 1 + 1, 2, none⟩ = false := HI.out.xblk.frozen 2
                        go_simp
                        clear kc kf
                        refine hK.out _ _ (.inl (by kernel_rfl)) ?_
                        clear hK K
                        try simp only [Act.put, List.setIfInBounds_toArray, List.set_cons_zero, List.set_cons_succ]
                        have HSM2 := hide (Mp.set HSM.out HI.out.xblk 2 (.slice a3 n3 c3))
                        clear HSM
                        have HSM := HSM2
                        clear HSM2
                        obtain ⟨cc, hcc, _, hnx⟩ := HI.out.store (.slice a3 n3 c3) 2
                        have HI2 := hide (hnx (.slice a1 n1 c1) (.slice a2 n2 c2) (.slice a3 n3 c3) hcc)
                        clear HI hnx hcc
                        have HI := HI2
                        clear HI2
                        generalize W96.setCell ⟨w.heap.size + 1 + 1, 2, none⟩ (.slice a3 n3 c3) = W97 at HI HSM ⊢
                        refine wpTill_done (by kernel_rfl) ?_ _
                        go_wp2_with fail
                        go_meet
                        case rel => exact ⟨(.slice a1 n1 c1), (.slice a2 n2 c2), ws ++ [tg], setRow' row .all (.slice a3 n3 c3), fm, lm, HI.out, by simp [hlw], ⟨sm, HSM.out, HSMt.out⟩, hx⟩
                    exact AllTill.nil
                  exact AllTill.nil
                exact AllTill.nil
              refine AllTill.consT (o := { dst := some 51, op := Op.buildSlice 22 1 #[(0, Operand.tmp 50)], type := 22, pos := "", after := #[], guard := none }) (by rfl) rfl (fun K hK => ?_) ?_
              · go_simp
                refine hK.out _ _ (.inr ((HI.out.alloc _).cells3)) ?_
                clear hK K
                try simp only [Act.put, List.setIfInBounds_toArray, List.set_cons_zero, List.set_cons_succ]
                have HP2 := hide (Pn.new HI.out (.string (str (lwS tg))) 9)
                have HQ1 := hide (HP1.out.alloc (.cells #[.string (str (lwS tg))] 9))
                clear HP1
                have HP1 := HQ1
                clear HQ1
                have HQ3 := hide (HP3.out.alloc (.cells #[.string (str (lwS tg))] 9))
                clear HP3
                have HP3 := HQ3
                clear HQ3
                have HI2 := hide (HI.out.alloc (.cells #[.string (str (lwS tg))] 9))
                clear HI
                have HI := HI2
                clear HI2
                have HSM2 := hide (Mp.alloc' HSM.out (.cells #[.string (str (lwS tg))] 9))
                clear HSM
                have HSM := HSM2
                clear HSM2
                generalize W90.alloc (.cells #[.string (str (lwS tg))] 9) = W98 at HP2 HP1 HP3 HI HSM ⊢
                refine wpTill_ready (rs := [9]) (by kernel_rfl) (by simp) ?_
                refine AllTill.consT (o := { dst := some 45, op := Op.call { callee := Callee.builtin Builtin.append, args := #[Operand.tmp 42, Operand.tmp 44], argTypes := #[22, 22] }, type := 22, pos := "", after := #[], guard := none }) (by rfl) rfl (fun K hK => ?_) ?_
                · refine step_append_one rfl _ _ 22 rfl 9 i9 _ 16 Yba.underlying22 hi9 hz9 hs9 hb9 rfl vw _ (by rfl) HI.out.ownW ⟨W89.heap.size, 0, none⟩ (.string (str tg)) (by rfl) HP1.out.cell rfl rfl (by simp [hlw, maxLen]; omega) (by simp [hlw]; omega) ?_
                  intro v1 W99 hO hg hb
                  have HQ2 := hide (HP2.out.appW hg hb.out)
                  clear HP2
                  have HP2 := HQ2
                  clear HQ2
                  have HQ3 := hide (HP3.out.appW hg hb.out)
                  clear HP3
                  have HP3 := HQ3
                  clear HQ3
                  have HSM2 := hide (Mp.grown HSM.out hg (own_cells HI.out.ownW))
                  clear HSM
                  have HSM := HSM2
                  clear HSM2
                  have HI2 := hide (HI.out.appW hO hg hb.out)
                  clear HI HP1 hO hg hb
                  have HI := HI2
                  clear HI2
                  refine hK.out _ _ (.inr HI.out.cells3) ?_
                  clear hK K
                  try simp only [Act.put, List.setIfInBounds_toArray, List.set_cons_zero, List.set_cons_succ]
                  refine wpTill_ready (rs := [16]) (by kernel_rfl) (by simp) ?_
                  refine AllTill.consT (o := { dst := some 52, op := Op.call { callee := Callee.builtin Builtin.append, args := #[Operand.tmp 49, Operand.tmp 51], argTypes := #[22, 22] }, type := 22, pos := "", after := #[], guard := none }) (by rfl) rfl (fun K hK => ?_) ?_
                  · refine step_append_one rfl _ _ 22 rfl 9 i9 _ 16 Yba.underlying22 hi9 hz9 hs9 hb9 rfl vt _ (by rfl) HI.out.ownT ⟨W90.heap.size, 0, none⟩ (.string (str (lwS tg))) (by rfl) HP2.out.cell rfl rfl (by simp [maxLen]; omega) (by simp; omega) ?_
                    intro v2 W100 hO hg hb
                    have HQ3 := hide (HP3.out.appT hg hb.out)
                    clear HP3
                    have HP3 := HQ3
                    clear HQ3
                    have HSM2 := hide (Mp.grown HSM.out hg (own_cells HI.out.ownT))
                    clear HSM
                    have HSM := HSM2
                    clear HSM2
                    have HI2 := hide (HI.out.appT hO hg hb.out)
                    clear HI HP2 hO hg hb
                    have HI := HI2
                    clear HI2
                    refine hK.out _ _ (.inr HI.out.cells3) ?_
                    clear hK K
                    try simp only [Act.put, List.setIfInBounds_toArray, List.set_cons_zero, List.set_cons_succ]
                    refine wpTill_ready (rs := [23]) (by kernel_rfl) (by simp) ?_
                    refine AllTill.consT (o := { dst := some 59, op := Op.call { callee := Callee.builtin Builtin.append, args := #[Operand.tmp 56, Operand.tmp 58], argTypes := #[28, 28] }, type := 28, pos := "", after := #[], guard := none }) (by rfl) rfl (fun K hK => ?_) ?_
                    · refine step_append_one rfl _ _ 28 rfl 3 i3 _ 8 Yba.underlying28 hi3 hz3 hs3 hb3 rfl x2 _ (by rfl) (HX2.out ▸ HI.out.fam.ownD .all) ⟨W0.heap.size, 0, none⟩ (.int .i64 (low.length : Nat)) (by rfl) HP3.out.cell rfl rfl (by simp [conOf, maxLen]; omega) (by simp [conOf]; omega) ?_
                      intro v3 W101 hO hg hb
                      have HSM2 := hide (Mp.grown HSM.out hg (own_cells (HX2.out ▸ HI.out.fam.ownD .all)))
                      clear HSM
                      have HSM := HSM2
                      clear HSM2
                      have HI2 := hide (HI.out.appAll low.length hO (HX2.out ▸ hg) (HX2.out ▸ hb.out))
                      clear HI HP3 hO hg hb
                      have HI := HI2
                      clear HI2
                      refine hK.out _ _ (.inr HI.out.cells3) ?_
                      clear hK K
                      try simp only [Act.put, List.setIfInBounds_toArray, List.set_cons_zero, List.set_cons_succ]
                      as_aux_lemma =>
                        obtain ⟨n1, a1, c1, rfl⟩ : ∃ n a c, v1 = .slice a n c := by obtain ⟨a, c, h⟩ := HI.out.ownW.form; exact ⟨_, a, c, h⟩
                        obtain ⟨n2, a2, c2, rfl⟩ : ∃ n a c, v2 = .slice a n c := by obtain ⟨a, c, h⟩ := HI.out.ownT.form; exact ⟨_, a, c, h⟩
                        obtain ⟨n3, a3, c3, rfl⟩ : ∃ n a c, v3 = .slice a n c := by obtain ⟨a, c, h⟩ := (HI.out.fam.own .all v3 (by simp [setRow'])).form; exact ⟨_, a, c, h⟩
                        refine wpTill_ready (rs := [24]) (by kernel_rfl) (by simp) ?_
                        refine AllTill.consT (o := { dst := some 60, op := Op.nilCheck (Operand.tmp 36), type := 0, pos := "", after := #[], guard := none }) (by rfl) rfl (fun K hK => ?_) AllTill.nil
                        go_simp
                        refine hK.out _ _ (.inr HI.out.cells3) ?_
                        clear hK K
                        try simp only [Act.put, List.setIfInBounds_toArray, List.set_cons_zero, List.set_cons_succ]
                        refine wpTill_ready (rs := [25]) (by kernel_rfl) (by simp) ?_
                        refine AllTill.consT (o := { dst := some 61, op := Op.fieldAddr 36 (Operand.tmp 60) 0, type := 0, pos := "", after := #[], guard := none }) (by rfl) rfl (fun K hK => ?_) AllTill.nil
                        go_simp
                        refine hK.out _ _ (.inr HI.out.cells3) ?_
                        clear hK K
                        try simp only [Act.put, List.setIfInBounds_toArray, List.set_cons_zero, List.set_cons_succ]
                        refine wpTill_ready (rs := [26]) (by kernel_rfl) (by simp) ?_
                        refine AllTill.consT (o := { dst := none, op := Op.store 22 (Operand.tmp 61) (Operand.tmp 45), type := 0, pos := "", after := #[], guard := none }) (by rfl) rfl (fun K hK => ?_) AllTill.nil
                        have kc : W101.cell? ⟨w.heap.size + 1 + 1, 0, none⟩ = some vw := HI.out.xblk.cell 0
                        have kf : W101.frozen? ⟨w.heap.size + 1 + 1, 0, none⟩ = false := HI.out.xblk.frozen 0
                        go_simp
                        clear kc kf
                        refine hK.out _ _ (.inl (by kernel_rfl)) ?_
                        clear hK K
                        try simp only [Act.put, List.setIfInBounds_toArray, List.set_cons_zero, List.set_cons_succ]
                        have HSM2 := hide (Mp.set HSM.out HI.out.xblk 0 (.slice a1 n1 c1))
                        clear HSM
                        have HSM := HSM2
                        clear HSM2
                        obtain ⟨cc, hcc, _, hnx⟩ := HI.out.store (.slice a1 n1 c1) 0
                        have HI2 := hide (hnx (.slice a1 n1 c1) vt x2 hcc)
                        clear HI hnx hcc
                        have HI := HI2
                        clear HI2
                        generalize W101.setCell ⟨w.heap.size + 1 + 1, 0, none⟩ (.slice a1 n1 c1) = W102 at HI HSM ⊢
                        refine wpTill_ready (rs := [27]) (by kernel_rfl) (by simp) ?_
                        refine AllTill.consT (o := { dst := some 62, op := Op.nilCheck (Operand.tmp 37), type := 0, pos := "", after := #[], guard := none }) (by rfl) rfl (fun K hK => ?_) AllTill.nil
                        go_simp
                        refine hK.out _ _ (.inl (by kernel_rfl)) ?_
                        clear hK K
                        try simp only [Act.put, List.setIfInBounds_toArray, List.set_cons_zero, List.set_cons_succ]
                        refine wpTill_ready (rs := [28]) (by kernel_rfl) (by simp) ?_
                        refine AllTill.consT (o := { dst := some 63, op := Op.fieldAddr 36 (Operand.tmp 62) 1, type := 0, pos := "", after := #[], guard := none }) (by rfl) rfl (fun K hK => ?_) AllTill.nil
                        go_simp
                        refine hK.out _ _ (.inl (by kernel_rfl)) ?_
                        clear hK K
                        try simp only [Act.put, List.setIfInBounds_toArray, List.set_cons_zero, List.set_cons_succ]
                        refine wpTill_ready (rs := [29]) (by kernel_rfl) (by simp) ?_
                        refine AllTill.consT (o := { dst := none, op := Op.store 22 (Operand.tmp 63) (Operand.tmp 52), type := 0, pos := "", after := #[], guard := none }) (by rfl) rfl (fun K hK => ?_) AllTill.nil
                        have kc : W102.cell? ⟨w.heap.size + 1 + 1, 1, none⟩ = some vt := HI.out.xblk.cell 1
                        have kf : W102.frozen? ⟨w.heap.size + 1 + 1, 1, none⟩ = false := HI.out.xblk.frozen 1
                        go_simp
                        clear kc kf
                        refine hK.out _ _ (.inl (by kernel_rfl)) ?_
                        clear hK K
                        try simp only [Act.put, List.setIfInBounds_toArray, List.set_cons_zero, List.set_cons_succ]
                        have HSM2 := hide (Mp.set HSM.out HI.out.xblk 1 (.slice a2 n2 c2))
                        clear HSM
                        have HSM := HSM2
                        clear HSM2
                        obtain ⟨cc, hcc, _, hnx⟩ := HI.out.store (.slice a2 n2 c2) 1
                        have HI2 := hide (hnx (.slice a1 n1 c1) (.slice a2 n2 c2) x2 hcc)
                        clear HI hnx hcc
                        have HI := HI2
                        clear HI2
                        generalize W102.setCell ⟨w.heap.size + 1 + 1, 1, none⟩ (.slice a2 n2 c2) = W103 at HI HSM ⊢
                        refine wpTill_ready (rs := [30]) (by kernel_rfl) (by simp) ?_
                        refine AllTill.consT (o := { dst := some 64, op := Op.nilCheck (Operand.tmp 38), type := 0, pos := "", after := #[], guard := none }) (by rfl) rfl (fun K hK => ?_) AllTill.nil
                        go_simp
                        refine hK.out _ _ (.inl (by kernel_rfl)) ?_
                        clear hK K
                        try simp only [Act.put, List.setIfInBounds_toArray, List.set_cons_zero, List.set_cons_succ]
                        refine wpTill_ready (rs := [31]) (by kernel_rfl) (by simp) ?_
                        refine AllTill.consT (o := { dst := some 65, op := Op.fieldAddr 36 (Operand.tmp 64) 2, type := 0, pos := "", after := #[], guard := none }) (by rfl) rfl (fun K hK => ?_) AllTill.nil
                        go_simp
                        refine hK.out _ _ (.inl (by kernel_rfl)) ?_
                        clear hK K
                        try simp only [Act.put, List.setIfInBounds_toArray, List.set_cons_zero, List.set_cons_succ]
                        refine wpTill_ready (rs := [32]) (by kernel_rfl) (by simp) ?_
                        refine AllTill.consT (o := { dst := none, op := Op.store 28 (Operand.tmp 65) (Operand.tmp 59), type := 0, pos := "", after := #[], guard := none }) (by rfl) rfl (fun K hK => ?_) AllTill.nil
                        have kc : W103.cell? ⟨w.heap.size + 1 + 1, 2, none⟩ = some x2 := HI.out.xblk.cell 2
                        have kf : W103.frozen? ⟨w.heap.size + 1 + 1, 2, none⟩ = false := HI.out.xblk.frozen 2
                        go_simp
                        clear kc kf
                        refine hK.out _ _ (.inl (by kernel_rfl)) ?_
                        clear hK K
                        try simp only [Act.put, List.setIfInBounds_toArray, List.set_cons_zero, List.set_cons_succ]
                        have HSM2 := hide (Mp.set HSM.out HI.out.xblk 2 (.slice a3 n3 c3))
                        clear HSM
                        have HSM := HSM2
                        clear HSM2
                        obtain ⟨cc, hcc, _, hnx⟩ := HI.out.store (.slice a3 n3 c3) 2
                        have HI2 := hide (hnx (.slice a1 n1 c1) (.slice a2 n2 c2) (.slice a3 n3 c3) hcc)
                        clear HI hnx hcc
                        have HI := HI2
                        clear HI2
                        generalize W103.setCell ⟨w.heap.size + 1 + 1, 2, none⟩ (.slice a3 n3 c3) = W104 at HI HSM ⊢
                        refine wpTill_done (by kernel_rfl) ?_ _
                        go_wp2_with fail
                        go_meet
                        case rel => exact ⟨(.slice a1 n1 c1), (.slice a2 n2 c2), ws ++ [tg], setRow' row .all (.slice a3 n3 c3), fm, lm, HI.out, by simp [hlw], ⟨sm, HSM.out, HSMt.out⟩, hx⟩
                    exact AllTill.nil
                  exact AllTill.nil
                exact AllTill.nil
              exact AllTill.nil
            refine AllTill.consT (o := { dst := some 51, op := Op.buildSlice 22 1 #[(0, Operand.tmp 50)], type := 22, pos := "", after := #[], guard := none }) (by rfl) rfl (fun K hK => ?_) ?_
            · go_simp
              refine hK.out _ _ (.inr ((HI.out.alloc _).cells3)) ?_
              clear hK K
              try simp only [Act.put, List.setIfInBounds_toArray, List.set_cons_zero, List.set_cons_succ]
              have HP2 := hide (Pn.new HI.out (.string (str (lwS tg))) 9)
              have HQ3 := hide (HP3.out.alloc (.cells #[.string (str (lwS tg))] 9))
              clear HP3
              have HP3 := HQ3
              clear HQ3
              have HI2 := hide (HI.out.alloc (.cells #[.string (str (lwS tg))] 9))
              clear HI
              have HI := HI2
              clear HI2
              have HSM2 := hide (Mp.alloc' HSM.out (.cells #[.string (str (lwS tg))] 9))
              clear HSM
              have HSM := HSM2
              clear HSM2
              generalize W89.alloc (.cells #[.string (str (lwS tg))] 9) = W105 at HP2 HP3 HI HSM ⊢
              refine wpTill_ready (rs := [8]) (by kernel_rfl) (by simp) ?_
              refine AllTill.consT (o := { dst := some 44, op := Op.buildSlice 22 1 #[(0, Operand.tmp 43)], type := 22, pos := "", after := #[], guard := none }) (by rfl) rfl (fun K hK => ?_) ?_
              · go_simp
                refine hK.out _ _ (.inr ((HI.out.alloc _).cells3)) ?_
                clear hK K
                try simp only [Act.put, List.setIfInBounds_toArray, List.set_cons_zero, List.set_cons_succ]
                have HP1 := hide (Pn.new HI.out (.string (str tg)) 9)
                have HQ2 := hide (HP2.out.alloc (.cells #[.string (str tg)] 9))
                clear HP2
                have HP2 := HQ2
                clear HQ2
                have HQ3 := hide (HP3.out.alloc (.cells #[.string (str tg)] 9))
                clear HP3
                have HP3 := HQ3
                clear HQ3
                have HI2 := hide (HI.out.alloc (.cells #[.string (str tg)] 9))
                clear HI
                have HI := HI2
                clear HI2
                have HSM2 := hide (Mp.alloc' HSM.out (.cells #[.string (str tg)] 9))
                clear HSM
                have HSM := HSM2
                clear HSM2
                generalize W105.alloc (.cells #[.string (str tg)] 9) = W106 at HP1 HP2 HP3 HI HSM ⊢
                refine wpTill_ready (rs := [9]) (by kernel_rfl) (by simp) ?_
                refine AllTill.consT (o := { dst := some 45, op := Op.call { callee := Callee.builtin Builtin.append, args := #[Operand.tmp 42, Operand.tmp 44], argTypes := #[22, 22] }, type := 22, pos := "", after := #[], guard := none }) (by rfl) rfl (fun K hK => ?_) ?_
                · refine step_append_one rfl _ _ 22 rfl 9 i9 _ 16 Yba.underlying22 hi9 hz9 hs9 hb9 rfl vw _ (by rfl) HI.out.ownW ⟨W105.heap.size, 0, none⟩ (.string (str tg)) (by rfl) HP1.out.cell rfl rfl (by simp [hlw, maxLen]; omega) (by simp [hlw]; omega) ?_
                  intro v1 W107 hO hg hb
                  have HQ2 := hide (HP2.out.appW hg hb.out)
                  clear HP2
                  have HP2 := HQ2
                  clear HQ2
                  have HQ3 := hide (HP3.out.appW hg hb.out)
                  clear HP3
                  have HP3 := HQ3
                  clear HQ3
                  have HSM2 := hide (Mp.grown HSM.out hg (own_cells HI.out.ownW))
                  clear HSM
                  have HSM := HSM2
                  clear HSM2
                  have HI2 := hide (HI.out.appW hO hg hb.out)
                  clear HI HP1 hO hg hb
                  have HI := HI2
                  clear HI2
                  refine hK.out _ _ (.inr HI.out.cells3) ?_
                  clear hK K
                  try simp only [Act.put, List.setIfInBounds_toArray, List.set_cons_zero, List.set_cons_succ]
                  refine wpTill_ready (rs := [16]) (by kernel_rfl) (by simp) ?_
                  refine AllTill.consT (o := { dst := some 52, op := Op.call { callee := Callee.builtin Builtin.append, args := #[Operand.tmp 49, Operand.tmp 51], argTypes := #[22, 22] }, type := 22, pos := "", after := #[], guard := none }) (by rfl) rfl (fun K hK => ?_) ?_
                  · refine step_append_one rfl _ _ 22 rfl 9 i9 _ 16 Yba.underlying22 hi9 hz9 hs9 hb9 rfl vt _ (by rfl) HI.out.ownT ⟨W89.heap.size, 0, none⟩ (.string (str (lwS tg))) (by rfl) HP2.out.cell rfl rfl (by simp [maxLen]; omega) (by simp; omega) ?_
                    intro v2 W108 hO hg hb
                    have HQ3 := hide (HP3.out.appT hg hb.out)
                    clear HP3
                    have HP3 := HQ3
                    clear HQ3
                    have HSM2 := hide (Mp.grown HSM.out hg (own_cells HI.out.ownT))
                    clear HSM
                    have HSM := HSM2
                    clear HSM2
                    have HI2 := hide (HI.out.appT hO hg hb.out)
                    clear HI HP2 hO hg hb
                    have HI := HI2
                    clear HI2
                    refine hK.out _ _ (.inr HI.out.cells3) ?_
                    clear hK K
                    try simp only [Act.put, List.setIfInBounds_toArray, List.set_cons_zero, List.set_cons_succ]
                    refine wpTill_ready (rs := [23]) (by kernel_rfl) (by simp) ?_
                    refine AllTill.consT (o := { dst := some 59, op := Op.call { callee := Callee.builtin Builtin.append, args := #[Operand.tmp 56, Operand.tmp 58], argTypes := #[28, 28] }, type := 28, pos := "", after := #[], guard := none }) (by rfl) rfl (fun K hK => ?_) ?_
                    · refine step_append_one rfl _ _ 28 rfl 3 i3 _ 8 Yba.underlying28 hi3 hz3 hs3 hb3 rfl x2 _ (by rfl) (HX2.out ▸ HI.out.fam.ownD .all) ⟨W0.heap.size, 0, none⟩ (.int .i64 (low.length : Nat)) (by rfl) HP3.out.cell rfl rfl (by simp [conOf, maxLen]; omega) (by simp [conOf]; omega) ?_
                      intro v3 W109 hO hg hb
                      have HSM2 := hide (Mp.grown HSM.out hg (own_cells (HX2.out ▸ HI.out.fam.ownD .all)))
                      clear HSM
                      have HSM := HSM2
                      clear HSM2
                      have HI2 := hide (HI.out.appAll low.length hO (HX2.out ▸ hg) (HX2.out ▸ hb.out))
                      clear HI HP3 hO hg hb
                      have HI := HI2
                      clear HI2
                      refine hK.out _ _ (.inr HI.out.cells3) ?_
                      clear hK K
                      try simp only [Act.put, List.setIfInBounds_toArray, List.set_cons_zero, List.set_cons_succ]
                      as_aux_lemma =>
                        obtain ⟨n1, a1, c1, rfl⟩ : ∃ n a c, v1 = .slice a n c := by obtain ⟨a, c, h⟩ := HI.out.ownW.form; exact ⟨_, a, c, h⟩
                        obtain ⟨n2, a2, c2, rfl⟩ : ∃ n a c, v2 = .slice a n c := by obtain ⟨a, c, h⟩ := HI.out.ownT.form; exact ⟨_, a, c, h⟩
                        obtain ⟨n3, a3, c3, rfl⟩ : ∃ n a c, v3 = .slice a n c := by obtain ⟨a, c, h⟩ := (HI.out.fam.own .all v3 (by simp [setRow'])).form; exact ⟨_, a, c, h⟩
                        refine wpTill_ready (rs := [24]) (by kernel_rfl) (by simp) ?_
                        refine AllTill.consT (o := { dst := some 60, op := Op.nilCheck (Operand.tmp 36), type := 0, pos := "", after := #[], guard := none }) (by rfl) rfl (fun K hK => ?_) AllTill.nil
                        go_simp
                        refine hK.out _ _ (.inr HI.out.cells3) ?_
                        clear hK K
                        try simp only [Act.put, List.setIfInBounds_toArray, List.set_cons_zero, List.set_cons_succ]
                        refine wpTill_ready (rs := [25]) (by kernel_rfl) (by simp) ?_
                        refine AllTill.consT (o := { dst := some 61, op := Op.fieldAddr 36 (Operand.tmp 60) 0, type := 0, pos := "", after := #[], guard := none }) (by rfl) rfl (fun K hK => ?_) AllTill.nil
                        go_simp
                        refine hK.out _ _ (.inr HI.out.cells3) ?_
                        clear hK K
                        try simp only [Act.put, List.setIfInBounds_toArray, List.set_cons_zero, List.set_cons_succ]
                        refine wpTill_ready (rs := [26]) (by kernel_rfl) (by simp) ?_
                        refine AllTill.consT (o := { dst := none, op := Op.store 22 (Operand.tmp 61) (Operand.tmp 45), type := 0, pos := "", after := #[], guard := none }) (by rfl) rfl (fun K hK => ?_) AllTill.nil
                        have kc : W109.cell? ⟨w.heap.size + 1 + 1, 0, none⟩ = some vw := HI.out.xblk.cell 0
                        have kf : W109.frozen? ⟨w.heap.size + 1 + 1, 0, none⟩ = false := HI.out.xblk.frozen 0
                        go_simp
                        clear kc kf
                        refine hK.out _ _ (.inl (by kernel_rfl)) ?_
                        clear hK K
                        try simp only [Act.put, List.setIfInBounds_toArray, List.set_cons_zero, List.set_cons_succ]
                        have HSM2 := hide (Mp.set HSM.out HI.out.xblk 0 (.slice a1 n1 c1))
                        clear HSM
                        have HSM := HSM2
                        clear HSM2
                        obtain ⟨cc, hcc, _, hnx⟩ := HI.out.store (.slice a1 n1 c1) 0
                        have HI2 := hide (hnx (.slice a1 n1 c1) vt x2 hcc)
                        clear HI hnx hcc
                        have HI := HI2
                        clear HI2
                        generalize W109.setCell ⟨w.heap.size + 1 + 1, 0, none⟩ (.slice a1 n1 c1) = W110 at HI HSM ⊢
                        refine wpTill_ready (rs := [27]) (by kernel_rfl) (by simp) ?_
                        refine AllTill.consT (o := { dst := some 62, op := Op.nilCheck (Operand.tmp 37), type := 0, pos := "", after := #[], guard := none }) (by rfl) rfl (fun K hK => ?_) AllTill.nil
                        go_simp
                        refine hK.out _ _ (.inl (by kernel_rfl)) ?_
                        clear hK K
                        try simp only [Act.put, List.setIfInBounds_toArray, List.set_cons_zero, List.set_cons_succ]
                        refine wpTill_ready (rs := [28]) (by kernel_rfl) (by simp) ?_
                        refine AllTill.consT (o := { dst := some 63, op := Op.fieldAddr 36 (Operand.tmp 62) 1, type := 0, pos := "", after := #[], guard := none }) (by rfl) rfl (fun K hK => ?_) AllTill.nil
                        go_simp
                        refine hK.out _ _ (.inl (by kernel_rfl)) ?_
                        clear hK K
                        try simp only [Act.put, List.setIfInBounds_toArray, List.set_cons_zero, List.set_cons_succ]
                        refine wpTill_ready (rs := [29]) (by kernel_rfl) (by simp) ?_
                        refine AllTill.consT (o := { dst := none, op := Op.store 22 (Operand.tmp 63) (Operand.tmp 52), type := 0, pos := "", after := #[], guard := none }) (by rfl) rfl (fun K hK => ?_) AllTill.nil
                        have kc : W110.cell? ⟨w.heap.size + 1 + 1, 1, none⟩ = some vt := HI.out.xblk.cell 1
                        have kf : W110.frozen? ⟨w.heap.size + 1 + 1, 1, none⟩ = false := HI.out.xblk.frozen 1
                        go_simp
                        clear kc kf
                        refine hK.out _ _ (.inl (by kernel_rfl)) ?_
                        clear hK K
                        try simp only [Act.put, List.setIfInBounds_toArray, List.set_cons_zero, List.set_cons_succ]
                        have HSM2 := hide (Mp.set HSM.out HI.out.xblk 1 (.slice a2 n2 c2))
                        clear HSM
                        have HSM := HSM2
                        clear HSM2
                        obtain ⟨cc, hcc, _, hnx⟩ := HI.out.store (.slice a2 n2 c2) 1
                        have HI2 := hide (hnx (.slice a1 n1 c1) (.slice a2 n2 c2) x2 hcc)
                        clear HI hnx hcc
                        have HI := HI2
                        clear HI2
                        generalize W110.setCell ⟨w.heap.size + 1 + 1, 1, none⟩ (.slice a2 n2 c2) = W111 at HI HSM ⊢
                        refine wpTill_ready (rs := [30]) (by kernel_rfl) (by simp) ?_
                        refine AllTill.consT (o := { dst := some 64, op := Op.nilCheck (Operand.tmp 38), type := 0, pos := "", after := #[], guard := none }) (by rfl) rfl (fun K hK => ?_) AllTill.nil
                        go_simp
                        refine hK.out _ _ (.inl (by kernel_rfl)) ?_
                        clear hK K
                        try simp only [Act.put, List.setIfInBounds_toArray, List.set_cons_zero, List.set_cons_succ]
                        refine wpTill_ready (rs := [31]) (by kernel_rfl) (by simp) ?_
                        refine AllTill.consT (o := { dst := some 65, op := Op.fieldAddr 36 (Operand.tmp 64) 2, type := 0, pos := "", after := #[], guard := none }) (by rfl) rfl (fun K hK => ?_) AllTill.nil
                        go_simp
                        refine hK.out _ _ (.inl (by kernel_rfl)) ?_
                        clear hK K
                        try simp only [Act.put, List.setIfInBounds_toArray, List.set_cons_zero, List.set_cons_succ]
                        refine wpTill_ready (rs := [32]) (by kernel_rfl) (by simp) ?_
                        refine AllTill.consT (o := { dst := none, op := Op.store 28 (Operand.tmp 65) (Operand.tmp 59), type := 0, pos := "", after := #[], guard := none }) (by rfl) rfl (fun K hK => ?_) AllTill.nil
                        have kc : W111.cell? ⟨w.heap.size + 1 + 1, 2, none⟩ = some x2 := HI.out.xblk.cell 2
                        have kf : W111.frozen? ⟨w.heap.size + 1 + 1, 2, none⟩ = false := HI.out.xblk.frozen 2
                        go_simp
                        clear kc kf
                        refine hK.out _ _ (.inl (by kernel_rfl)) ?_
                        clear hK K
                        try simp only [Act.put, List.setIfInBounds_toArray, List.set_cons_zero, List.set_cons_succ]
                        have HSM2 := hide (Mp.set HSM.out HI.out.xblk 2 (.slice a3 n3 c3))
                        clear HSM
                        have HSM := HSM2
                        clear HSM2
                        obtain ⟨cc, hcc, _, hnx⟩ := HI.out.store (.slice a3 n3 c3) 2
                        have HI2 := hide (hnx (.slice a1 n1 c1) (.slice a2 n2 c2) (.slice a3 n3 c3) hcc)
                        clear HI hnx hcc
                        have HI := HI2
                        clear HI2
                        generalize W111.setCell ⟨w.heap.size + 1 + 1, 2, none⟩ (.slice a3 n3 c3) = W112 at HI HSM ⊢
                        refine wpTill_done (by kernel_rfl) ?_ _
                        go_wp2_with fail
                        go_meet
                        case rel => exact ⟨(.slice a1 n1 c1), (.slice a2 n2 c2), ws ++ [tg], setRow' row .all (.slice a3 n3 c3), fm, lm, HI.out, by simp [hlw], ⟨sm, HSM.out, HSMt.out⟩, hx⟩
                    exact AllTill.nil
                  exact AllTill.nil
                exact AllTill.nil
              exact AllTill.nil
            exact AllTill.nil
          exact AllTill.nil
        case rest =>
          have HM3 := hcut
          clear hcut HM2 cx hrun
          have hnm2 : nm ≤ 4096 * 2097153 := Nat.le_trans hnm (Nat.mul_le_mul_right _ (by omega))
          have hkey : (hdS (lwS tg)).length ≤ 2097152 := by
            have : (hdS (lwS tg)).length ≤ (lwS tg).length := (List.takeWhile_sublist _).length_le
            omega
          go_upto_region 12 with (go_at_call 15; refine (next_any (lwS tg) _ (by omega)).mono ?_; rintro e w' ⟨rfl, q, rfl⟩)
          have HM4 : Hid (MSt w (w.heap.size + 1 + 1) w.heap.size (w.heap.size + 1) (w.heap.size + 1 + 1 + 1) (low ++ [lwS tg]) (low ++ [lwS tg]) (setCon (conOf low) .all low.length) (i + 1) nm (wc.drewN q)) := HM3.out.ext (Ext.drewN _ _)
          clear HM3
          generalize wc.drewN q = w4 at HM4 ⊢
          go_cut [] (fun wx => Hid (MSt w (w.heap.size + 1 + 1) w.heap.size (w.heap.size + 1) (w.heap.size + 1 + 1 + 1) (low ++ [lwS tg]) (low ++ [lwS tg]) (midCon low (lwS tg) []) (i + 1) (nm + 1) wx))
          case first =>
            obtain ⟨vw, vt, ws, row, fm, lm, hI, hlw, ⟨sm, hsm, hsm2⟩, hx⟩ := HM4.out
            have hI0 := hI.drew
            obtain ⟨R, hR⟩ : ∃ R, (row (.first (hdS (lwS tg)))).getD nilS = R := ⟨_, rfl⟩
            have hl0 := hI0.lookF (hdS (lwS tg)) hkey
            have hl1 := (hI0.alloc (.cells #[.int .i64 (low.length : Nat)] 3)).lookF (hdS (lwS tg)) hkey
            have ho1 := (hI0.alloc (.cells #[.int .i64 (low.length : Nat)] 3)).fam.ownD (.first (hdS (lwS tg)))
            rw [hR] at hl0 hl1 ho1
            have q0 : w4.drew.cell? ⟨w.heap.size + 1 + 1, 3, none⟩ = some (.map (some (w.heap.size))) := hI0.xblk.cell 3
            have q1 : (w4.drew.alloc (.cells #[.int .i64 (low.length : Nat)] 3)).cell? ⟨w.heap.size + 1 + 1, 3, none⟩ = some (.map (some (w.heap.size))) := (hI0.alloc _).xblk.cell 3
            have hl2 : (Instr.lookup 34 (.map (some (w.heap.size))) (.string (str (hdS (lwS tg)))) false).run Yba.prog (w4.alloc (.cells #[.int .i64 (low.length : Nat)] 3)).drew = .ok R (w4.alloc (.cells #[.int .i64 (low.length : Nat)] 3)).drew := hl1
            have q4 : (w4.alloc (.cells #[.int .i64 (low.length : Nat)] 3)).drew.cell? ⟨w.heap.size + 1 + 1, 3, none⟩ = some (.map (some (w.heap.size))) := q1
            clear hl1 q1
            have HI0 := hide hI0
            have HSM : Hid (Mp Yba.prog 9 w4.drew (w.heap.size + 1 + 1 + 1) (i + 1) sm) := hsm
            have HSMt := hide hsm2
            have HR := hide hR
            have HO1 := hide ho1
            have hcl := setcon_first low (hdS (lwS tg))
            clear hI hI0 hsm hsm2 hR ho1
            obtain ⟨i3, hi3, hz3, hs3, hb3⟩ := inf3
            go_region_held3 (fun w' => w'.cell? ⟨w.heap.size + 1 + 1, 3, none⟩ = some (.map (some (w.heap.size)))) (first | assumption | go_keep)
              ((refine step_append_one (by rfl) _ _ 28 (by rfl) 3 i3 _ 8 Yba.underlying28 hi3 hz3 hs3 hb3 rfl R _ (by rfl) HO1.out ⟨w4.drew.heap.size, 0, none⟩ (.int .i64 (low.length : Nat)) (by rfl) (new_cell _ _ _) rfl rfl (by rw [List.length_map]; unfold maxLen; omega) (by rw [List.length_map]; omega) ?_; intro v2 W2 hO hg0 hb; have hg : (w4.drew.alloc (.cells #[.int .i64 (low.length : Nat)] 3)).grownBy W2 R.ownBlock := hg0; clear hg0; obtain ⟨W3, hrun3, hI3, hg3⟩ := HI0.out.putF (hdS (lwS tg)) hkey low.length (by unfold maxLen; omega) hO (HR.out ▸ hg) (HR.out ▸ hb.out); have HSM3 := hide (Mp.grown (Mp.alloc' HSM.out (.cells #[.int .i64 (low.length : Nat)] 3)) hg (own_cells HO1.out)); have HSM4 := hide (RawMap.Mp.of HSM3.out ((Ext.grown hg3).block _ (RawMap.Mp.lt HSM3.out) (fun e => by injection e with e; omega))); have q2 : W2.cell? ⟨w.heap.size + 1 + 1, 3, none⟩ = some (.map (some (w.heap.size))) := HI0.out.cellKept _ HR.out hg 3; have HI3 := hide hI3; have q3 : W3.cell? ⟨w.heap.size + 1 + 1, 3, none⟩ = some (.map (some (w.heap.size))) := (HI3.out.choose_spec.choose_spec).xblk.cell 3; clear hO hg hb hI3 hg3 HSM3))
            all_goals
              go_wp2_with fail
              go_meet
              case rel =>
                obtain ⟨fm', lm', hI3⟩ := HI3.out
                rw [mid_start] at hI3
                exact ⟨vw, vt, ws, setRow' row (.first (hdS (lwS tg))) v2, fm', lm', hI3, hlw, ⟨sm, HSM4.out, HSMt.out⟩, hx⟩
          case rest =>
            have HM5 := hcut
            clear hcut HM4
            have HNM := hide hnm
            clear hkey hnm
            have htl9 : (tlS (lwS tg)).length ≤ (lwS tg).length := by
              unfold tlS
              have := (List.dropWhile_sublist (l := lwS tg) (fun c => decide (c ≠ 45))).length_le
              rw [List.length_drop]; omega
            have HNXT : Hid ((nx (lwS tg)).tail = [] ++ (if tlS (lwS tg) = [] then [] else nx (tlS (lwS tg)))) := by
              show _ = _
              rw [nx_eq]; rfl
            have HL42 : Hid (∀ x : List UInt8, (str x).toList = x) := fun x => by rw [Lib.toList_data]; simp [str]
            go_wp2_with fail
            go_loopg [10] ((tlS (lwS tg)).length + 1) (fun f s10 wx => ∃ (rest : List UInt8) (L : List (List UInt8)), s10 = .string (str rest) ∧ rest.length < f ∧ rest.length + L.length ≤ (lwS tg).length ∧ Hid ((nx (lwS tg)).tail = L ++ (if rest = [] then [] else nx rest)) ∧ Hid (MSt w (w.heap.size + 1 + 1) w.heap.size (w.heap.size + 1) (w.heap.size + 1 + 1 + 1) (low ++ [lwS tg]) (low ++ [lwS tg]) (midCon low (lwS tg) L) (i + 1) (nm + 1 + L.length) wx))
            case atStart => exact ⟨tlS (lwS tg), [], rfl, by omega, by simpa using htl9, HNXT, HM5⟩
            case round =>
              obtain ⟨rest, L, rfl, hf2, hrl, hnx, hMr⟩ := hrel
              by_cases h0 : rest = []
              · have hemp : (str rest).toList.isEmpty = true := by rw [HL42.out, h0]; rfl
                have HEND : Hid (NSt w (w.heap.size + 1 + 1) w.heap.size (w.heap.size + 1) (w.heap.size + 1 + 1 + 1) (ddup [] (List.take (i + 1) tags)) (i + 1) wr) := by
                  have h1 := hMr.out
                  have h2 := hnx.out
                  rw [if_pos h0, List.append_nil] at h2
                  rw [← h2, mid_end] at h1
                  have h3 := HTG.out
                  rw [if_neg hm] at h3
                  rw [h3]
                  refine h1.back ?_
                  have h5 := HNM.out
                  rw [h2, Nat.add_mul]
                  omega
                clear h0
                go_wp2
                go_roundg (tags.length - (i + 1))
                case measure => omega
                case rel => exact ⟨i + 1, by go_num, by omega, by omega, HEND⟩
              · have hemp : (str rest).toList.isEmpty = false := by
                  rw [HL42.out]
                  cases rest with
                  | nil => exact absurd rfl h0
                  | cons x y => rfl
                have hkey : (hdS rest).length ≤ 2097152 := by
                  have : (hdS rest).length ≤ rest.length := (List.takeWhile_sublist _).length_le
                  omega
                have htl2 : (tlS rest).length < rest.length := by
                  have h1 : 0 < rest.length := List.length_pos_iff.2 h0
                  have := (List.dropWhile_sublist (l := rest) (fun c => decide (c ≠ 45))).length_le
                  unfold tlS
                  rw [List.length_drop]; omega
                have HNX2 : Hid ((nx (lwS tg)).tail = (L ++ [hdS rest]) ++ (if tlS rest = [] then [] else nx (tlS rest))) := by
                  show _ = _
                  rw [hnx.out, if_neg h0, nx_eq rest, List.append_assoc]; rfl
                clear hnx h0
                go_upto_region 15 with (go_at_call 15; refine (next_any rest _ (by omega)).mono ?_; rintro e w' ⟨rfl, q2, rfl⟩)
                have HM6 : Hid (MSt w (w.heap.size + 1 + 1) w.heap.size (w.heap.size + 1) (w.heap.size + 1 + 1 + 1) (low ++ [lwS tg]) (low ++ [lwS tg]) (midCon low (lwS tg) L) (i + 1) (nm + 1 + L.length) (wr.drewN q2)) := hMr.out.ext (Ext.drewN _ _)
                clear hMr
                generalize wr.drewN q2 = w5 at HM6 ⊢
                obtain ⟨vw, vt, ws, row, fm, lm, hI, hlw, ⟨sm, hsm, hsm2⟩, hx⟩ := HM6.out
                have hI0 := hI.drew
                obtain ⟨R, hR⟩ : ∃ R, (row (.later (hdS rest))).getD nilS = R := ⟨_, rfl⟩
                have hl0 := hI0.lookL (hdS rest) hkey
                have hl1 := (hI0.alloc (.cells #[.int .i64 (low.length : Nat)] 3)).lookL (hdS rest) hkey
                have ho1 := (hI0.alloc (.cells #[.int .i64 (low.length : Nat)] 3)).fam.ownD (.later (hdS rest))
                rw [hR] at hl0 hl1 ho1
                have q0 : w5.drew.cell? ⟨w.heap.size + 1 + 1, 4, none⟩ = some (.map (some (w.heap.size + 1))) := hI0.xblk.cell 4
                have q1 : (w5.drew.alloc (.cells #[.int .i64 (low.length : Nat)] 3)).cell? ⟨w.heap.size + 1 + 1, 4, none⟩ = some (.map (some (w.heap.size + 1))) := (hI0.alloc _).xblk.cell 4
                have hl2 : (Instr.lookup 34 (.map (some (w.heap.size + 1))) (.string (str (hdS rest))) false).run Yba.prog (w5.alloc (.cells #[.int .i64 (low.length : Nat)] 3)).drew = .ok R (w5.alloc (.cells #[.int .i64 (low.length : Nat)] 3)).drew := hl1
                have q4 : (w5.alloc (.cells #[.int .i64 (low.length : Nat)] 3)).drew.cell? ⟨w.heap.size + 1 + 1, 4, none⟩ = some (.map (some (w.heap.size + 1))) := q1
                clear hl1 q1
                have HI0 := hide hI0
                have HSM : Hid (Mp Yba.prog 9 w5.drew (w.heap.size + 1 + 1 + 1) (i + 1) sm) := hsm
                have HSMt := hide hsm2
                have HR := hide hR
                have HO1 := hide ho1
                have hcl := mid_later_len hlowb.out (lwS tg) L (hdS rest)
                clear hI hI0 hsm hsm2 hR ho1
                obtain ⟨i3, hi3, hz3, hs3, hb3⟩ := inf3
                go_region_held3 (fun w' => w'.cell? ⟨w.heap.size + 1 + 1, 4, none⟩ = some (.map (some (w.heap.size + 1)))) (first | assumption | go_keep)
                  ((refine step_append_one (by rfl) _ _ 28 (by rfl) 3 i3 _ 8 Yba.underlying28 hi3 hz3 hs3 hb3 rfl R _ (by rfl) HO1.out ⟨w5.drew.heap.size, 0, none⟩ (.int .i64 (low.length : Nat)) (by rfl) (new_cell _ _ _) rfl rfl (by rw [List.length_map]; unfold maxLen; omega) (by rw [List.length_map]; omega) ?_; intro v2 W2 hO hg0 hb; have hg : (w5.drew.alloc (.cells #[.int .i64 (low.length : Nat)] 3)).grownBy W2 R.ownBlock := hg0; clear hg0; obtain ⟨W3, hrun3, hI3, hg3⟩ := HI0.out.putL (hdS rest) hkey low.length (by unfold maxLen; omega) hO (HR.out ▸ hg) (HR.out ▸ hb.out); have HSM3 := hide (Mp.grown (Mp.alloc' HSM.out (.cells #[.int .i64 (low.length : Nat)] 3)) hg (own_cells HO1.out)); have HSM4 := hide (RawMap.Mp.of HSM3.out ((Ext.grown hg3).block _ (RawMap.Mp.lt HSM3.out) (fun e => by injection e with e; omega))); have q2 : W2.cell? ⟨w.heap.size + 1 + 1, 4, none⟩ = some (.map (some (w.heap.size + 1))) := HI0.out.cellKept _ HR.out hg 4; have HI3 := hide hI3; have q3 : W3.cell? ⟨w.heap.size + 1 + 1, 4, none⟩ = some (.map (some (w.heap.size + 1))) := (HI3.out.choose_spec.choose_spec).xblk.cell 4; clear hO hg hb hI3 hg3 HSM3))
                all_goals
                  go_wp2_with fail
                  go_roundg ((tlS rest).length + 1)
                  case measure => omega
                  case rel =>
                    obtain ⟨fm', lm', hI3⟩ := HI3.out
                    rw [mid_step] at hI3
                    refine ⟨tlS rest, L ++ [hdS rest], rfl, by omega, by simp; omega, HNX2, ?_⟩
                    rw [List.length_append]
                    exact ⟨vw, vt, ws, setRow' row (.later (hdS rest)) v2, fm', lm', hI3, hlw, ⟨sm, HSM4.out, HSMt.out⟩, hx⟩
    · obtain rfl : i = tags.length := by omega
      have hS2 := hS
      rw [List.take_length] at hS2
      clear hS hraw hlen hpp h0
      go_wp2
      go_ret
      exact ⟨rfl, hS2.out⟩
end Go.Proofs.YbulkdtxaA
