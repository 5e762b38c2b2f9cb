import Derived.Test.YbulkdtxaRows
import Derived.Test.YbulkdtxaAL3
import Derived.WalkKit
import Derived.ProofKit
import Derived.OpenShut
import Derived.ShutString
import Derived.ChangeOld
import Derived.Stop.Joined
import Derived.SizedLaws
import Derived.SliceStrings
namespace Go.Proofs.Ybulkdtxa.lawS6032AWhole
open Go.ChangeShapes Go.WideShapes Go.ChangeAt Go.RowKit
open Go.ChangeMaps (open_string shut_string)
open Go.Proofs.YbulkdtxaA

theorem own : ownKnob Yba.prog.godebug = none := by kernel_rfl
theorem laidOut : laidOutB Yba.prog = true := by kernel_rfl
theorem cells9 : Yba.prog.cellsOf 9 = 1 := by kernel_rfl

set_option maxRecDepth 100000 in
/-- more tags than the law looks at -/
theorem lawA_big (p : Option Addr) (n tc : Nat) (s : ByteArray) (ext : Bool) (pk : Int) (w : World) (hn : 4096 < n) (hm : n ≤ maxLen) :
    Calls Yba.prog 3 #[.slice p n tc, .string s, .bool ext, .int .u8 pk] w fun e w' => e = .returned (.bool true) ∧ w' = w := by
  unfold maxLen at hm
  go_enter Yba.func3, Yba.ntmps3
  go_wp2
  go_ret
  exact ⟨rfl, rfl⟩

theorem weights_strs {H : Type} {P : Program} {e : TypeId} : ∀ {ss : List ByteArray} {s : ByteArray}, s ∈ ss → s.data.toList.length ∈ DataW.weightsAll (H := H) P e (strs ss)
  | s0 :: ss, s, h => by
    have hcons : (strs (s0 :: ss) : List (DataW H)) = .lit (.string s0.data.toList) :: strs ss := rfl
    rw [hcons, DataW.weightsAll, DataW.weights]
    rcases List.mem_cons.1 h with h | h
    · subst h; simp
    · exact List.mem_append.2 (.inr (weights_strs h))

set_option maxRecDepth 100000 in
theorem lifted (os : Os) (started : os.Started) (H : Type) (enc : TypeId × Value → H) :
    ReturnsInHanded {} Yba.checked os 3 .any (Rows.lawS6032AWholeSpec.pre6 enc Yba.prog Yba.f3 Rows.lawS6032AWholeRow.domain false) (Rows.lawS6032AWholeSpec.post enc Yba.prog Yba.f3 false true false false) := by
  refine returnsInHanded_of_change_sized (C := Yba.checked) own started (by kernel_rfl) Yba.func3
    (ChangeSpec.witness6 (enc := enc) (C := Yba.checked) false ⟨#[], #[.slice none 0 0, .string ByteArray.empty, .bool false, .int .u8 0], []⟩ 8 (by kernel_rfl) (by kernel_rfl) (by kernel_rfl) (by kernel_rfl)) ?_
  intro W base args ds gs before hval0 hW hcnd hsz0 _
  have hsz : (DataW.weightsEach Yba.prog (Yba.f3.params.toList ++ Rows.lawS6032AWholeSpec.plain.varTypes Yba.prog) (ds ++ gs)).all (· ≤ reachBytes) = true := hsz0
  have hval : ∀ (j : Nat) t v, Yba.f3.params[j]? = some t → args[j]? = some v → Value.okWide Yba.prog W .any base t v := hval0
  have hW' := hW
  obtain ⟨p, q, hA0, hV, rfl, hfz, hnd⟩ := hW
  have hA : DataW.TrodAll enc Yba.prog W 0 (fun _ => true) true Yba.f3.params.toList args.toList ds p := hA0
  rw [Yba.params3] at hA hval hsz
  obtain ⟨v0, vs0, d0, ds0, p0, q0, hargs, rfl, rfl, h0, r0⟩ := trodAll_cons hA
  obtain ⟨v1, vs1, d1, ds1, p1, q1, rfl, rfl, rfl, h1, r1⟩ := trodAll_cons r0
  obtain ⟨v2, vs2, d2, ds2, p2, q2, rfl, rfl, rfl, h2, r2⟩ := trodAll_cons r1
  obtain ⟨v3, vs3, d3, ds3, p3, q3, rfl, rfl, rfl, h3, r3⟩ := trodAll_cons r2
  obtain ⟨rfl, rfl, rfl⟩ := trodAll_nil r3
  obtain rfl : args = #[v0, v1, v2, v3] := by cases args; simp_all
  obtain ⟨rfl, rfl⟩ := trodVars_none hV
  have lt0 : ∀ x ∈ p0, x.block < W.heap.size := by obtain ⟨m, hm⟩ := h0; exact DataW.trod_lt m _ _ _ hm
  have lt1 : ∀ x ∈ p1, x.block < W.heap.size := by obtain ⟨m, hm⟩ := h1; exact DataW.trod_lt m _ _ _ hm
  have lt2 : ∀ x ∈ p2, x.block < W.heap.size := by obtain ⟨m, hm⟩ := h2; exact DataW.trod_lt m _ _ _ hm
  have lt3 : ∀ x ∈ p3, x.block < W.heap.size := by obtain ⟨m, hm⟩ := h3; exact DataW.trod_lt m _ _ _ hm
  have fin : ∀ W', Below W.heap.size W W' → Rows.lawS6032AWholeSpec.post enc Yba.prog Yba.f3 false true false false W #[v0, v1, v2, v3] (.bool true) W' := by
    intro W' bel
    refine ⟨_, _, _, [], p0 ++ (p1 ++ (p2 ++ (p3 ++ []))), [], hW', trodAll_mk1 (shut_bool Yba.underlying4 _), ?_, rfl, bel.frame _, fun h => by cases h⟩
    exact (trodAll_cons_mk (Below.trod laidOut (by kernel_rfl) (of_decide_eq_true (by kernel_rfl)) h0 bel lt0) (trodAll_cons_mk (Below.trod laidOut (by kernel_rfl) (of_decide_eq_true (by kernel_rfl)) h1 bel lt1) (trodAll_cons_mk (Below.trod laidOut (by kernel_rfl) (of_decide_eq_true (by kernel_rfl)) h2 bel lt2) (trodAll_cons_mk (Below.trod laidOut (by kernel_rfl) (of_decide_eq_true (by kernel_rfl)) h3 bel lt3) trodAll_mk0))))
  obtain ⟨a0, len, cap, rfl⟩ := okWide_slice Yba.underlying22 (hval 0 22 v0 rfl rfl)
  obtain ⟨rng, rfl, rfl, rfl, wr⟩ := open_string Yba.underlying9 (hval 1 9 v1 rfl rfl) h1
  obtain ⟨ext, rfl, _, _⟩ := open_bool Yba.underlying4 (hval 2 4 v2 rfl rfl) h2
  obtain ⟨pk, rfl, _, _, wk⟩ := open_int Yba.underlying5 (hval 3 5 v3 rfl rfl) h3
  have hb := bounds_u8 wk
  obtain ⟨pn, rfl⟩ := Int.eq_ofNat_of_zero_le hb.1
  have hrng : rng.data.toList.length ≤ 140737488355328 := by
    have := sized_string hsz (j := 1) (t := 9) (bytes := rng.data.toList) rfl rfl
    have h2 := reachBytes_lt
    omega
  have goal : Calls Yba.prog 3 #[.slice a0 len cap, .string rng, .bool ext, .int .u8 (pn : Int)] W fun e w' => e = .returned (.bool true) ∧ Below W.heap.size W w' := by
    obtain ⟨fuel, hf⟩ := h0
    have walked : ∀ (tags : List (List UInt8)), tags.length = len → len ≤ 4096 → (∀ s ∈ tags, s.length ≤ 140737488355328) → (∀ a, a0 = some a → ∀ j s, tags[j]? = some s → W.cell? (a.add j) = some (encS s)) → (tags ≠ [] → ∃ a, a0 = some a) →
        Calls Yba.prog 3 #[.slice a0 len cap, .string rng, .bool ext, .int .u8 (pn : Int)] W fun e w' => e = .returned (.bool true) ∧ Below W.heap.size W w' := by
      intro tags htl hle hbt hct hpt
      have hH : Holds W (.slice a0 tags.length cap) tags := by
        refine ⟨a0, cap, rfl, fun hn => ?_⟩
        obtain ⟨⟨b, off, spot⟩, rfl⟩ := hpt hn
        have c0 := hct _ rfl 0 _ (List.getElem?_eq_getElem (List.length_pos_iff.2 hn))
        have hspot : spot = none := by simpa [Addr.add] using World.cell?_spot c0
        subst hspot
        refine ⟨b, off, rfl, fun j s hs => ?_⟩
        have := hct _ rfl j s hs
        rw [← add_plain]; exact this
      have h := lawA_any a0 cap tags rng.data.toList ext pn (by have := hb.2; omega) (by omega) hbt hrng hH hct
      rw [htl, ← str_of] at h
      refine h.mono fun e w' ⟨he, hx⟩ => ⟨he, ?_⟩
      exact ⟨hx.os, hx.tape, hx.output, hx.size, fun k hk => hx.block k hk id⟩
    rcases open_strings Yba.underlying22 Yba.underlying9 cells9 hf with ⟨hcs, hx⟩ | ⟨a, len', cap', ss, hcs, _, hl, hm, hz, hx, hcell, hws⟩
    · simp [Value.cells] at hcs
      obtain ⟨rfl, rfl, rfl⟩ := hcs
      exact walked [] rfl (by omega) (fun s hs => by cases hs) (fun a ha => by cases ha) (fun h => absurd rfl h)
    · simp [Value.cells] at hcs
      obtain ⟨rfl, rfl, rfl⟩ := hcs
      simp only [Prod.mk.injEq] at hx
      obtain ⟨rfl, rfl⟩ := hx
      simp only [if_true] at hz
      by_cases hbig : 4096 < len
      · refine (lawA_big (some a) len cap rng ext pn W hbig (by omega)).mono fun e w' ⟨he, hw⟩ => ⟨he, ?_⟩
        subst hw
        exact ⟨rfl, rfl, rfl, Nat.le_refl _, fun _ _ => rfl⟩
      · refine walked ((ss.take len).map (fun s => s.data.toList)) (by simp; omega) (by omega) (fun t ht => ?_) (fun a' ha' j s hs => ?_) (fun _ => ⟨a, rfl⟩)
        · obtain ⟨s, hs, rfl⟩ := List.mem_map.1 ht
          have hin : s.data.toList.length ∈ (DataW.slice (strs (ss.take len)) (strs (ss.drop len)) : DataW H).weights Yba.prog 22 := by
            rw [DataW.weights, Yba.underlying22]
            exact List.mem_cons_of_mem _ (List.mem_append.2 (.inl (weights_strs hs)))
          have := of_decide_eq_true (List.all_eq_true.1 hsz _ (DataW.weights_mem_each (j := 0) (t := 22) (d := (DataW.slice (strs (ss.take len)) (strs (ss.drop len)) : DataW H)) rfl rfl _ hin))
          have h2 := reachBytes_lt
          omega
        · injection ha' with ha'
          subst ha'
          rw [List.getElem?_map] at hs
          rcases Nat.lt_or_ge j len with hj | hj
          · rw [List.getElem?_take, if_pos hj] at hs
            have hjs : j < ss.length := by omega
            rw [List.getElem?_eq_getElem hjs] at hs
            simp at hs
            rw [hcell j hjs, List.getD_eq_getElem?_getD, List.getElem?_eq_getElem hjs, ← hs]
            show some (Value.string ss[j]) = some (.string (str ss[j].data.toList))
            rw [← str_of]
          · rw [List.getElem?_take, if_neg (by omega)] at hs
            cases hs
  refine goal.mono fun e W' ⟨he, bel⟩ => ?_
  subst he
  exact ⟨_, rfl, fin W' bel⟩

theorem over : Rows.lawS6032AWholeRow.holds Yba.pinned (OpenSpec.ofChange Rows.lawS6032AWholeSpec) :=
  OpenClaim.holds_of_wide 3 Yba.f3 rfl rfl rfl rfl rfl rfl rfl ⟨rfl, rfl, rfl, rfl, rfl⟩ rfl rfl rfl rfl rfl (by kernel_rfl) Yba.func3 (by kernel_rfl)
    (of_decide_eq_true (by kernel_rfl)) (by unfold Func.isWrapper; first | (rw [if_pos (by decide +kernel)]; kernel_rfl) | (rw [if_neg (by decide +kernel)]; exact ⟨rfl, rfl⟩))
    (fun os started H enc _ => lifted os started H enc)

/-- the given statement -/
theorem proved : Rows.LawS6032AWholeSaid :=
  over
end Go.Proofs.Ybulkdtxa.lawS6032AWhole
