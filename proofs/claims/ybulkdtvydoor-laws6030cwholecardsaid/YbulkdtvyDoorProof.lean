import Derived.Test.YbulkdtvyDoorOpen
import Derived.Test.YbulkdtvyDoorTie
import Derived.Test.YbulkdtvyDoorCards
import Derived.SevenTiedAt
namespace Go.Proofs.YbulkdtvyDoor.M
open Go.ChangeShapes Go.WideShapes Go.ChangeAt Go.RowKit
open Go.ChangeMaps (open_string shut_string)

theorem own : ownKnob Ybad.prog.godebug = none := by kernel_rfl
theorem laidOut : laidOutB Ybad.prog = true := by kernel_rfl
theorem gOdd : Ybad.prog.globalNamed (Rows.lawS6030CWholeSpec.vars.headD "") = some 0 := by kernel_rfl
theorem tOdd : (Ybad.prog.globals[0]?).map (·.type) = some 57 := by kernel_rfl

theorem door_met (os : Os) (args : Array Value) : laidMetH Ybad.prog Rows.lawS6030CWholeRow.laid ((World.doorLaid Ybad.prog 400 os).forCall (fun _ _ => 0) ⟨#[], args, []⟩).memory :=
  laidMetH_of_parts3 (fuel := 8) (laidMet_of_run' 8 (by kernel_rfl) (by kernel_rfl)) (by kernel_rfl) (by kernel_rfl)

theorem txl_lits : (Rows.laid_example_com_parcelwright_parcelwright_pkg_check_oddityText : DataW Unit) = .agg [.lit (.string (txl 0)), .lit (.string (txl 1)), .lit (.string (txl 2)), .lit (.string (txl 3)), .lit (.string (txl 4)), .lit (.string (txl 5)), .lit (.string (txl 6))] := by kernel_rfl

theorem of_laid {W : World} (h : laidMetH Ybad.prog Rows.lawS6030CWholeRow.laid W) : ∀ k, k < 7 → W.cell? ⟨0, k, none⟩ = some (.string (txt k)) := by
  rw [MakeChecks.laidMetH_plain _ _ _ (by kernel_rfl)] at h
  obtain ⟨ps, ⟨g0, t0, cs0, f0, p0, q0, hg0, ht0, hv0, hd0, _⟩, _, _⟩ := h
  obtain rfl := Option.some.inj (gOdd.symm.trans hg0)
  obtain rfl := Option.some.inj (tOdd.symm.trans ht0)
  obtain ⟨xs, m1, _, hx1, hlen, hn7, hel⟩ := DataW.trod_array Ybad.underlying57 hd0
  rw [cells57] at hlen
  rw [cells9] at hel
  simp only [Prod.mk.injEq] at hx1
  have hx2 := hx1.1
  rw [txl_lits] at hx2
  injection hx2 with hx2
  intro k hk
  obtain ⟨y, hy⟩ : ∃ y, xs[k]? = some y := ⟨xs[k]'(by omega), List.getElem?_eq_getElem (by omega)⟩
  have hyl : y.1 = .lit (.string (txl k)) := by
    have e : (xs.map (·.1))[k]? = some y.1 := by rw [List.getElem?_map, hy]; rfl
    rw [← hx2] at e
    match k, hk with
    | 0, _ => simpa using e.symm
    | 1, _ => simpa using e.symm
    | 2, _ => simpa using e.symm
    | 3, _ => simpa using e.symm
    | 4, _ => simpa using e.symm
    | 5, _ => simpa using e.symm
    | 6, _ => simpa using e.symm
  have h1 := (hel k hk).trans hy
  obtain ⟨s, e1, e2, _⟩ := DataW.trod_string Ybad.underlying9 h1
  have e3 : s.data.toList = txl k := by
    rw [e2] at hyl
    simpa using hyl
  have e4 : s = txt k := by
    obtain ⟨⟨l⟩⟩ := s
    simp only at e3
    unfold txt
    rw [← e3]
  have hc := World.var?_cell hg0 hv0 k
  rw [hc, ← e4]
  have e5 : cs0.toList[k]? = some (.string s) := by
    rw [Nat.mul_one] at e1
    have e6 : ((cs0.toList.drop k).take 1)[0]? = some (.string s) := by rw [e1]; rfl
    rw [List.getElem?_take_of_lt (by omega), List.getElem?_drop] at e6
    simpa using e6
  simpa using e5

set_option maxRecDepth 100000 in
set_option maxHeartbeats 1000000 in
theorem law_big (ks line : Int) (name : ByteArray) (a : Option Addr) (n cap : Nat) (s0 s1 s2 s3 s4 s5 l0 l1 l2 l3 l4 l5 : Int) (w : World) (hn : 1048576 < n) :
    Calls Ybad.prog 3 #[.int .u8 ks, .int .i64 line, .string name, .slice a n cap, arr6 s0 s1 s2 s3 s4 s5, arr6u l0 l1 l2 l3 l4 l5] w fun e w' => e = .returned (.bool true) ∧ Below w.heap.size w w' := by
  have hni : (1048576 : Int) < (n : Int) := by omega
  have hnd : decide ((1048576 : Int) < (n : Int)) = true := decide_eq_true hni
  clear hn
  go_enter Ybad.func3, Ybad.ntmps3
  go_wp2
  go_ret
  exact ⟨rfl, ((Below.refl _ _).alloc (Nat.le_refl _) _).alloc (by simp) _⟩

set_option maxRecDepth 100000 in
theorem lifted (os : Os) (started : os.Started) (H : Type) (enc : TypeId × Value → H) :
    ReturnsInHanded {} Ybad.checked os 3 .any (fun w args => (Rows.lawS6030CWholeSpec.pre enc Ybad.prog Ybad.f3 [] false w args ∧ laidMetH Ybad.prog Rows.lawS6030CWholeRow.laid w) ∧ sizedMet enc Ybad.prog Ybad.f3 (OpenSpec.ofChange Rows.lawS6030CWholeSpec) false w args)
      (Rows.lawS6030CWholeSpec.post enc Ybad.prog Ybad.f3 false true false false) := by
  refine returnsInHanded_of_change_and (C := Ybad.checked) (X := fun w _ => laidMetH Ybad.prog Rows.lawS6030CWholeRow.laid w) (fun _ _ _ hh h => h.of_heap hh) own started (by kernel_rfl) Ybad.func3
    (ChangeSpec.witness_shaped (enc := enc) (C := Ybad.checked) (os := os) (X := fun w _ => laidMetH Ybad.prog Rows.lawS6030CWholeRow.laid w) false (World.doorLaid Ybad.prog 400 os) #[.int .u8 0, .int .i64 0, .string ByteArray.empty, .slice none 0 0, arr6 0 0 0 0 0 0, arr6u 0 0 0 0 0 0] 8 rfl (World.shaped_of_RefB (by kernel_rfl) (by kernel_rfl)) (by kernel_rfl) (by kernel_rfl) (by kernel_rfl) (door_met os _)) ?_
  intro W base args ds gs before hval0 hW _ _ hL _
  have hval : ∀ (j : Nat) t v, Ybad.f3.params[j]? = some t → args[j]? = some v → Value.okWide Ybad.prog W .any base t v := hval0
  have hW' := hW
  obtain ⟨p, q, hA0, hV, rfl, hfz, hnd⟩ := hW
  have hA : DataW.TrodAll enc Ybad.prog W 0 (fun _ => true) true Ybad.f3.params.toList args.toList ds p := hA0
  rw [Ybad.params3] at hA hval
  obtain ⟨v0, vs0, d0, ds0, p0, q0, hargs, rfl, rfl, h0, r0⟩ := trodAll_cons hA
  obtain ⟨v1, vs1, d1, ds1, p1, q1, rfl, rfl, rfl, h1, r1⟩ := trodAll_cons r0
  obtain ⟨v2, vs2, d2, ds2, p2, q2, rfl, rfl, rfl, h2, r2⟩ := trodAll_cons r1
  obtain ⟨v3, vs3, d3, ds3, p3, q3, rfl, rfl, rfl, h3, r3⟩ := trodAll_cons r2
  obtain ⟨v4, vs4, d4, ds4, p4, q4, rfl, rfl, rfl, h4, r4⟩ := trodAll_cons r3
  obtain ⟨v5, vs5, d5, ds5, p5, q5, rfl, rfl, rfl, h5, r5⟩ := trodAll_cons r4
  obtain ⟨rfl, rfl, rfl⟩ := trodAll_nil r5
  obtain rfl : args = #[v0, v1, v2, v3, v4, v5] := by cases args; simp_all
  have lt0 : ∀ x ∈ p0, x.block < W.heap.size := by obtain ⟨m, hm⟩ := h0; exact DataW.trod_lt m _ _ _ hm
  have lt1 : ∀ x ∈ p1, x.block < W.heap.size := by obtain ⟨m, hm⟩ := h1; exact DataW.trod_lt m _ _ _ hm
  have lt2 : ∀ x ∈ p2, x.block < W.heap.size := by obtain ⟨m, hm⟩ := h2; exact DataW.trod_lt m _ _ _ hm
  have lt3 : ∀ x ∈ p3, x.block < W.heap.size := by obtain ⟨m, hm⟩ := h3; exact DataW.trod_lt m _ _ _ hm
  have lt4 : ∀ x ∈ p4, x.block < W.heap.size := by obtain ⟨m, hm⟩ := h4; exact DataW.trod_lt m _ _ _ hm
  have lt5 : ∀ x ∈ p5, x.block < W.heap.size := by obtain ⟨m, hm⟩ := h5; exact DataW.trod_lt m _ _ _ hm
  have htx := of_laid hL
  have fin : ∀ W', Below W.heap.size W W' → Rows.lawS6030CWholeSpec.post enc Ybad.prog Ybad.f3 false true false false W #[v0, v1, v2, v3, v4, v5] (.bool true) W' := by
    intro W' bel
    obtain ⟨g, t, cs, fuel, d, pv, hgs, e1, e2, e3, e4, e5⟩ := trodVars_one hV
    subst hgs
    refine ⟨_, _, _, [], p0 ++ (p1 ++ (p2 ++ (p3 ++ (p4 ++ (p5 ++ []))))), q, hW', trodAll_mk1 (shut_bool Ybad.underlying4 _), ?_, ?_, bel.frame _, fun h => by cases h⟩
    · exact (trodAll_cons_mk (Below.trod laidOut (by kernel_rfl) (of_decide_eq_true (by kernel_rfl)) h0 bel lt0) (trodAll_cons_mk (Below.trod laidOut (by kernel_rfl) (of_decide_eq_true (by kernel_rfl)) h1 bel lt1) (trodAll_cons_mk (Below.trod laidOut (by kernel_rfl) (of_decide_eq_true (by kernel_rfl)) h2 bel lt2) (trodAll_cons_mk (Below.trod laidOut (by kernel_rfl) (of_decide_eq_true (by kernel_rfl)) h3 bel lt3) (trodAll_cons_mk (Below.trod laidOut (by kernel_rfl) (of_decide_eq_true (by kernel_rfl)) h4 bel lt4) (trodAll_cons_mk (Below.trod laidOut (by kernel_rfl) (of_decide_eq_true (by kernel_rfl)) h5 bel lt5) trodAll_mk0))))))
    · exact Below.trodVars laidOut bel (by kernel_rfl) hV
  obtain ⟨ks, rfl, _, _, wk⟩ := open_int Ybad.underlying5 (hval 0 5 v0 rfl rfl) h0
  obtain ⟨line, rfl, _, _, wl⟩ := open_int Ybad.underlying3 (hval 1 3 v1 rfl rfl) h1
  obtain ⟨name, rfl, _, _, wn⟩ := open_string Ybad.underlying9 (hval 2 9 v2 rfl rfl) h2
  obtain ⟨a0, len, cap, rfl⟩ := okWide_slice Ybad.underlying22 (hval 3 22 v3 rfl rfl)
  obtain ⟨s0, s1, s2, s3, s4, s5, rfl, ws0, ws1, ws2, ws3, ws4, ws5⟩ := open_arr6 Ybad.underlying23 Ybad.underlying3 cells3 cells23 (hval 4 23 v4 rfl rfl) h4
  obtain ⟨l0, l1, l2, l3, l4, l5, rfl, wl0, wl1, wl2, wl3, wl4, wl5⟩ := open_arr6 Ybad.underlying25 Ybad.underlying24 cells24 cells25 (hval 5 25 v5 rfl rfl) h5
  obtain ⟨hlen, hfs⟩ := open_fs rfl h3
  have goal : Calls Ybad.prog 3 #[.int .u8 ks, .int .i64 line, .string name, .slice a0 len cap, arr6 s0 s1 s2 s3 s4 s5, arr6u l0 l1 l2 l3 l4 l5] W fun e w' => e = .returned (.bool true) ∧ Below W.heap.size W w' := by
    by_cases hbig : 1048576 < len
    · exact law_big ks line name a0 len cap s0 s1 s2 s3 s4 s5 l0 l1 l2 l3 l4 l5 W hbig
    · rcases hfs with ⟨rfl, rfl, rfl⟩ | ⟨a, xs, rfl, hx, hF⟩
      · exact law_nil ks line name s0 s1 s2 s3 s4 s5 l0 l1 l2 l3 l4 l5 W (bounds_u8 wk).1 (bounds_u8 wk).2 (bounds_i64 ws0) (bounds_i64 ws1) (bounds_i64 ws2) (bounds_i64 ws3) (bounds_i64 ws4) (bounds_i64 ws5) htx
      · exact law_some ks line name a len cap xs s0 s1 s2 s3 s4 s5 l0 l1 l2 l3 l4 l5 W (bounds_u8 wk).1 (bounds_u8 wk).2 hx (by omega) hF (bounds_i64 ws0) (bounds_i64 ws1) (bounds_i64 ws2) (bounds_i64 ws3) (bounds_i64 ws4) (bounds_i64 ws5) htx (bounds_u64 wl0).1 (bounds_u64 wl1).1 (bounds_u64 wl2).1 (bounds_u64 wl3).1 (bounds_u64 wl4).1 (bounds_u64 wl5).1
  refine goal.mono fun e W' ⟨he, bel⟩ => ?_
  subst he
  exact ⟨_, rfl, fin W' bel⟩

theorem row_holds : Rows.LawS6030CWholeSaid :=
  OpenClaim.holds_of_wide 3 Ybad.f3 rfl rfl rfl rfl rfl rfl rfl ⟨rfl, rfl, rfl, rfl, rfl⟩ rfl rfl rfl rfl rfl (by kernel_rfl) Ybad.func3 (by kernel_rfl)
    (of_decide_eq_true (by kernel_rfl)) (by unfold Func.isWrapper; first | (rw [if_pos (by decide +kernel)]; kernel_rfl) | (rw [if_neg (by decide +kernel)]; exact ⟨rfl, rfl⟩))
    (fun os started H enc _ => lifted os started H enc)

theorem proved : Rows.LawS6030CWholeCardSaid :=
  Claim7.holds_tied_plain_at .later [] [.data] true Rows.lawS6030CWholeCard.stood.harness false
    row_holds (fun _ h => by cases h) (by kernel_rfl) (fun _ h => by cases h) lawS6030CWhole_row_tie rfl ⟨rfl, rfl⟩ (by kernel_rfl) rfl
    (fun f fn hf hfn => by
      obtain rfl : f = 3 := Option.some.inj ((show Ybad.prog.funcNamed Rows.lawS6030CWholeRow.func = some 3 by kernel_rfl).symm.trans hf) |>.symm
      obtain rfl : fn = Ybad.f3 := (Option.some.inj (Ybad.func3.symm.trans hfn)).symm
      exact ⟨by kernel_rfl, fun j t ht => by
        rw [Ybad.params3] at ht
        have hm : t ∈ [5, 3, 9, 22, 23, 25] := by simpa using Array.mem_of_getElem? ht
        have hall : ([5, 3, 9, 22, 23, 25].all fun u => !Ybad.prog.wantsStandIn u) = true := by kernel_rfl
        exact (show Ybad.prog.wantsStandIn t = false by simpa using List.all_eq_true.1 hall t hm)⟩)
    (by kernel_rfl)
end Go.Proofs.YbulkdtvyDoor.M
