import Derived.Test.YbulkdtuwRows
import Derived.Test.YbulkdtuwCO1
import Derived.WalkKit
import Derived.ProofKit
import Derived.OpenShut
import Derived.ShutString
import Derived.ChangeOld
import Derived.Stop.Joined
import Derived.Deep.Slices
namespace Go.Proofs.Ybulkdtuw.lawS6028CWhole
open Go.ChangeShapes Go.WideShapes Go.ChangeAt Go.RowKit
open Go.ChangeMaps (open_string shut_string)
open Go.Proofs.YbulkdtuwC

theorem own : ownKnob Yba.prog.godebug = none := by kernel_rfl
theorem laidOut : laidOutB Yba.prog = true := by kernel_rfl

set_option maxRecDepth 100000 in
/-- more intents or more grants than the law looks at -/
theorem lawC_big (tx : Int) (hs : Bool) (d : Int) (gap : Bool) (t k : ByteArray) (p q : Option Addr) (rn rc zn zc : Nat) (w : World) (h : 1024 < rn ∨ 1024 < zn) (hr : rn ≤ maxLen) (hz : zn ≤ maxLen) :
    Calls Yba.prog 5 #[.int .u64 tx, .bool hs, .int .u8 d, .bool gap, .string t, .string k, .slice p rn rc, .slice q zn zc] w fun e w' => e = .returned (.bool true) ∧ w' = w := by
  unfold maxLen at hr hz
  by_cases h1 : 1024 < rn
  · have f1 : decide ((1024 : Int) < (rn : Int)) = true := decide_eq_true (by omega)
    go_enter Yba.func5, Yba.ntmps5
    go_wp2
    go_ret
    exact ⟨rfl, rfl⟩
  · have f1 : decide ((1024 : Int) < (rn : Int)) = false := decide_eq_false (by omega)
    have f2 : decide ((1024 : Int) < (zn : Int)) = true := decide_eq_true (by omega)
    go_enter Yba.func5, Yba.ntmps5
    go_wp2
    go_ret
    exact ⟨rfl, rfl⟩

set_option maxRecDepth 100000 in
theorem lifted (os : Os) (started : os.Started) (H : Type) (enc : TypeId × Value → H) :
    ReturnsInHanded {} Yba.checked os 5 .any (Rows.lawS6028CWholeSpec.pre6 enc Yba.prog Yba.f5 Rows.lawS6028CWholeRow.domain false) (Rows.lawS6028CWholeSpec.post enc Yba.prog Yba.f5 false true false false) := by
  refine returnsInHanded_of_change (C := Yba.checked) own started (by kernel_rfl) Yba.func5
    (ChangeSpec.witness6 (enc := enc) (C := Yba.checked) false ⟨#[], #[.int .u64 0, .bool false, .int .u8 0, .bool false, .string ByteArray.empty, .string ByteArray.empty, .slice none 0 0, .slice none 0 0], []⟩ 8 (by kernel_rfl) (by kernel_rfl) (by kernel_rfl) (by kernel_rfl)) ?_
  intro W base args ds gs before hval0 hW hcnd _
  have hval : ∀ (j : Nat) t v, Yba.f5.params[j]? = some t → args[j]? = some v → Value.okWide Yba.prog W .any base t v := hval0
  have hW' := hW
  obtain ⟨p, q, hA0, hV, rfl, hfz, hnd⟩ := hW
  have hA : DataW.TrodAll enc Yba.prog W 0 (fun _ => true) true Yba.f5.params.toList args.toList ds p := hA0
  rw [Yba.params5] at hA hval
  obtain ⟨v0, vs0, d0, ds0, p0, q0, hargs, rfl, rfl, h0, r0⟩ := trodAll_cons hA
  obtain ⟨v1, vs1, d1, ds1, p1, q1, rfl, rfl, rfl, h1, r1⟩ := trodAll_cons r0
  obtain ⟨v2, vs2, d2, ds2, p2, q2, rfl, rfl, rfl, h2, r2⟩ := trodAll_cons r1
  obtain ⟨v3, vs3, d3, ds3, p3, q3, rfl, rfl, rfl, h3, r3⟩ := trodAll_cons r2
  obtain ⟨v4, vs4, d4, ds4, p4, q4, rfl, rfl, rfl, h4, r4⟩ := trodAll_cons r3
  obtain ⟨v5, vs5, d5, ds5, p5, q5, rfl, rfl, rfl, h5, r5⟩ := trodAll_cons r4
  obtain ⟨v6, vs6, d6, ds6, p6, q6, rfl, rfl, rfl, h6, r6⟩ := trodAll_cons r5
  obtain ⟨v7, vs7, d7, ds7, p7, q7, rfl, rfl, rfl, h7, r7⟩ := trodAll_cons r6
  obtain ⟨rfl, rfl, rfl⟩ := trodAll_nil r7
  obtain rfl : args = #[v0, v1, v2, v3, v4, v5, v6, v7] := by cases args; simp_all
  obtain ⟨rfl, rfl⟩ := trodVars_none hV
  have lt0 : ∀ x ∈ p0, x.block < W.heap.size := by obtain ⟨m, hm⟩ := h0; exact DataW.trod_lt m _ _ _ hm
  have lt1 : ∀ x ∈ p1, x.block < W.heap.size := by obtain ⟨m, hm⟩ := h1; exact DataW.trod_lt m _ _ _ hm
  have lt2 : ∀ x ∈ p2, x.block < W.heap.size := by obtain ⟨m, hm⟩ := h2; exact DataW.trod_lt m _ _ _ hm
  have lt3 : ∀ x ∈ p3, x.block < W.heap.size := by obtain ⟨m, hm⟩ := h3; exact DataW.trod_lt m _ _ _ hm
  have lt4 : ∀ x ∈ p4, x.block < W.heap.size := by obtain ⟨m, hm⟩ := h4; exact DataW.trod_lt m _ _ _ hm
  have lt5 : ∀ x ∈ p5, x.block < W.heap.size := by obtain ⟨m, hm⟩ := h5; exact DataW.trod_lt m _ _ _ hm
  have lt6 : ∀ x ∈ p6, x.block < W.heap.size := by obtain ⟨m, hm⟩ := h6; exact DataW.trod_lt m _ _ _ hm
  have lt7 : ∀ x ∈ p7, x.block < W.heap.size := by obtain ⟨m, hm⟩ := h7; exact DataW.trod_lt m _ _ _ hm
  have fin : ∀ W', Below W.heap.size W W' → Rows.lawS6028CWholeSpec.post enc Yba.prog Yba.f5 false true false false W #[v0, v1, v2, v3, v4, v5, v6, v7] (.bool true) W' := by
    intro W' bel
    refine ⟨_, _, _, [], p0 ++ (p1 ++ (p2 ++ (p3 ++ (p4 ++ (p5 ++ (p6 ++ (p7 ++ []))))))), [], hW', trodAll_mk1 (shut_bool Yba.underlying4 _), ?_, rfl, bel.frame _, fun h => by cases h⟩
    exact (trodAll_cons_mk (Below.trod laidOut (by kernel_rfl) (of_decide_eq_true (by kernel_rfl)) h0 bel lt0) (trodAll_cons_mk (Below.trod laidOut (by kernel_rfl) (of_decide_eq_true (by kernel_rfl)) h1 bel lt1) (trodAll_cons_mk (Below.trod laidOut (by kernel_rfl) (of_decide_eq_true (by kernel_rfl)) h2 bel lt2) (trodAll_cons_mk (Below.trod laidOut (by kernel_rfl) (of_decide_eq_true (by kernel_rfl)) h3 bel lt3) (trodAll_cons_mk (Below.trod laidOut (by kernel_rfl) (of_decide_eq_true (by kernel_rfl)) h4 bel lt4) (trodAll_cons_mk (Below.trod laidOut (by kernel_rfl) (of_decide_eq_true (by kernel_rfl)) h5 bel lt5) (trodAll_cons_mk (Below.trod laidOut (by kernel_rfl) (of_decide_eq_true (by kernel_rfl)) h6 bel lt6) (trodAll_cons_mk (Below.trod laidOut (by kernel_rfl) (of_decide_eq_true (by kernel_rfl)) h7 bel lt7) trodAll_mk0))))))))
  obtain ⟨ptx, rfl, _, _, wtx⟩ := open_int Yba.underlying22 (hval 0 22 v0 rfl rfl) h0
  obtain ⟨hs, rfl, _, _⟩ := open_bool Yba.underlying4 (hval 1 4 v1 rfl rfl) h1
  obtain ⟨pd, rfl, _, _, wd⟩ := open_int Yba.underlying5 (hval 2 5 v2 rfl rfl) h2
  obtain ⟨gap, rfl, _, _⟩ := open_bool Yba.underlying4 (hval 3 4 v3 rfl rfl) h3
  obtain ⟨t, rfl, rfl, rfl, wt⟩ := open_string Yba.underlying9 (hval 4 9 v4 rfl rfl) h4
  obtain ⟨k, rfl, rfl, rfl, wk⟩ := open_string Yba.underlying9 (hval 5 9 v5 rfl rfl) h5
  obtain ⟨a6, len6, cap6, rfl⟩ := okWide_slice Yba.underlying36 (hval 6 36 v6 rfl rfl)
  obtain ⟨a7, len7, cap7, rfl⟩ := okWide_slice Yba.underlying37 (hval 7 37 v7 rfl rfl)
  obtain ⟨hl6, I, hIl, hI⟩ := open_is rfl h6
  obtain ⟨hl7, G, hGl, hG⟩ := open_gs rfl h7
  have htx := bounds_u64 wtx
  obtain ⟨ntx, rfl⟩ := Int.eq_ofNat_of_zero_le htx.1
  have hd := bounds_u8 wd
  obtain ⟨nd, rfl⟩ := Int.eq_ofNat_of_zero_le hd.1
  have goal : Calls Yba.prog 5 #[.int .u64 (ntx : Int), .bool hs, .int .u8 (nd : Int), .bool gap, .string t, .string k, .slice a6 len6 cap6, .slice a7 len7 cap7] W fun e w' => e = .returned (.bool true) ∧ Below W.heap.size W w' := by
    by_cases hbig : 1024 < len6 ∨ 1024 < len7
    · refine (lawC_big ntx hs nd gap t k a6 a7 len6 cap6 len7 cap7 W hbig hl6 hl7).mono fun e w' ⟨he, hw⟩ => ⟨he, ?_⟩
      subst hw
      exact ⟨rfl, rfl, rfl, Nat.le_refl _, fun _ _ => rfl⟩
    · have h := lawC_any (w := W) ntx (by have := htx.2; omega) hs nd (by have := hd.2; omega) gap t k wt wk a6 I cap6 (by omega) hI a7 G cap7 (by omega) hG
      rw [hIl, hGl] at h
      refine h.mono fun e w' ⟨he, hx⟩ => ⟨he, ?_⟩
      exact ⟨hx.os, hx.tape, hx.output, hx.size, fun k hk => hx.block k hk id⟩
  refine goal.mono fun e W' ⟨he, bel⟩ => ?_
  subst he
  exact ⟨_, rfl, fin W' bel⟩

theorem over : Rows.lawS6028CWholeRow.holds Yba.pinned (OpenSpec.ofChange Rows.lawS6028CWholeSpec) :=
  OpenClaim.holds_of_wide 5 Yba.f5 rfl rfl rfl rfl rfl rfl rfl ⟨rfl, rfl, rfl, rfl, rfl⟩ rfl rfl rfl rfl rfl (by kernel_rfl) Yba.func5 (by kernel_rfl)
    (of_decide_eq_true (by kernel_rfl)) (by unfold Func.isWrapper; first | (rw [if_pos (by decide +kernel)]; kernel_rfl) | (rw [if_neg (by decide +kernel)]; exact ⟨rfl, rfl⟩))
    (fun os started H enc _ => lifted os started H enc)

/-- the given statement -/
theorem proved : Rows.LawS6028CWholeSaid :=
  over
end Go.Proofs.Ybulkdtuw.lawS6028CWhole
