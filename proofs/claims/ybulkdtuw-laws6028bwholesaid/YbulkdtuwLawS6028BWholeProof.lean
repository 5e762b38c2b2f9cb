import Derived.Test.YbulkdtuwRows
import Derived.Test.YbulkdtuwBW5
import Derived.WalkKit
import Derived.ProofKit
import Derived.OpenShut
import Derived.ShutString
import Derived.ChangeOld
import Derived.Stop.Joined
import Derived.Deep.Slices
namespace Go.Proofs.Ybulkdtuw.lawS6028BWhole
open Go.ChangeShapes Go.WideShapes Go.ChangeAt Go.RowKit Go.Deep Go.Sort
open Go.Proofs.YbulkdtuwB

theorem own : ownKnob Yba.prog.godebug = none := by kernel_rfl
theorem laidOut : laidOutB Yba.prog = true := by kernel_rfl
theorem cells9 : Yba.prog.cellsOf 9 = 1 := by kernel_rfl
theorem cells5 : Yba.prog.cellsOf 5 = 1 := by kernel_rfl

section
variable {H : Type} {enc : TypeId × Value → H} {W : World} {held : Bool}

/-- the strings that came in -/
theorem open_strs {v : Value} {d : DataW H} {p : List MemPlace} {a0 : Option Addr} {len cap : Nat} (hv : v = .slice a0 len cap) (h : DataW.Trod enc Yba.prog W 0 (fun _ => true) held 26 v d p) :
    len ≤ maxLen ∧ ∃ raw : List (List UInt8), raw.length = len ∧ (0 < raw.length → ∃ a, a0 = some a ∧ ∀ j s, raw[j]? = some s → W.cell? (a.add j) = some (encStr s)) := by
  obtain ⟨fuel, hf⟩ := h
  rw [hv] at hf
  rcases open_slice1 Yba.underlying26 cells9 hf with ⟨hcs, _⟩ | ⟨a, len', cap', m, n, V, D, Pl, hcs, _, hl, hm, hmm, _, hx⟩
  · simp [Value.cells] at hcs
    obtain ⟨rfl, rfl, rfl⟩ := hcs
    exact ⟨Nat.zero_le _, [], rfl, fun h => absurd h (by simp)⟩
  · simp [Value.cells] at hcs
    obtain ⟨rfl, rfl, rfl⟩ := hcs
    refine ⟨Nat.le_trans hl hm, ?_⟩
    simp only [if_true] at hmm
    subst hmm
    have each : ∀ i, i < len → ∃ s : List UInt8, W.cell? (a.add i) = some (encStr s) := by
      intro i hi
      obtain ⟨h1, h2⟩ := hx i (by omega)
      obtain ⟨s, e1, _, _⟩ := DataW.trod_string Yba.underlying9 h2
      simp at e1
      refine ⟨s.data.toList, ?_⟩
      rw [h1, e1, encs]
    obtain ⟨F, hF⟩ := choose_lt each
    refine ⟨(List.range len).map F, by simp, fun _ => ⟨a, rfl, fun j s hs => ?_⟩⟩
    rw [List.getElem?_map] at hs
    rcases Nat.lt_or_ge j len with hj | hj
    · rw [List.getElem?_range hj] at hs
      simp at hs
      rw [hF j hj, hs]
    · rw [List.getElem?_eq_none (by simp; omega)] at hs
      cases hs

/-- the sizes that came in -/
theorem open_szs {v : Value} {d : DataW H} {p : List MemPlace} {a0 : Option Addr} {len cap : Nat} (hv : v = .slice a0 len cap) (h : DataW.Trod enc Yba.prog W 0 (fun _ => true) held 27 v d p) :
    len ≤ maxLen ∧ ∀ j, j < len → ∃ (b : Addr) (u : Nat), a0 = some b ∧ u < 256 ∧ W.cell? (b.add j) = some (.int .u8 u) := by
  obtain ⟨fuel, hf⟩ := h
  rw [hv] at hf
  rcases open_slice1 Yba.underlying27 cells5 hf with ⟨hcs, _⟩ | ⟨a, len', cap', m, n, V, D, Pl, hcs, _, hl, hm, hmm, _, hx⟩
  · simp [Value.cells] at hcs
    obtain ⟨rfl, rfl, rfl⟩ := hcs
    exact ⟨Nat.zero_le _, fun j h => absurd h (by omega)⟩
  · simp [Value.cells] at hcs
    obtain ⟨rfl, rfl, rfl⟩ := hcs
    refine ⟨Nat.le_trans hl hm, fun j hj => ?_⟩
    simp only [if_true] at hmm
    subst hmm
    obtain ⟨h1, h2⟩ := hx j (by omega)
    obtain ⟨x, e1, _, e3⟩ := DataW.trod_int Yba.underlying5 h2
    simp at e1
    have hb := bounds_u8 e3
    obtain ⟨u, rfl⟩ := Int.eq_ofNat_of_zero_le hb.1
    exact ⟨a, u, rfl, by have := hb.2; omega, by rw [h1, e1]⟩
end

set_option maxRecDepth 100000 in
theorem lifted (os : Os) (started : os.Started) (H : Type) (enc : TypeId × Value → H) :
    ReturnsInHanded {} Yba.checked os 4 .any (Rows.lawS6028BWholeSpec.pre6 enc Yba.prog Yba.f4 Rows.lawS6028BWholeRow.domain false) (Rows.lawS6028BWholeSpec.post enc Yba.prog Yba.f4 false true false false) := by
  refine returnsInHanded_of_change (C := Yba.checked) own started (by kernel_rfl) Yba.func4
    (ChangeSpec.witness6 (enc := enc) (C := Yba.checked) false ⟨#[], #[.slice none 0 0, .slice none 0 0, .int .u64 0], []⟩ 8 (by kernel_rfl) (by kernel_rfl) (by kernel_rfl) (by kernel_rfl)) ?_
  intro W base args ds gs before hval0 hW hcnd _
  have hval : ∀ (j : Nat) t v, Yba.f4.params[j]? = some t → args[j]? = some v → Value.okWide Yba.prog W .any base t v := hval0
  have hW' := hW
  obtain ⟨p, q, hA0, hV, rfl, hfz, hnd⟩ := hW
  have hA : DataW.TrodAll enc Yba.prog W 0 (fun _ => true) true Yba.f4.params.toList args.toList ds p := hA0
  rw [Yba.params4] at hA hval
  obtain ⟨v0, vs0, d0, ds0, p0, q0, hargs, rfl, rfl, h0, r0⟩ := trodAll_cons hA
  obtain ⟨v1, vs1, d1, ds1, p1, q1, rfl, rfl, rfl, h1, r1⟩ := trodAll_cons r0
  obtain ⟨v2, vs2, d2, ds2, p2, q2, rfl, rfl, rfl, h2, r2⟩ := trodAll_cons r1
  obtain ⟨rfl, rfl, rfl⟩ := trodAll_nil r2
  obtain rfl : args = #[v0, v1, v2] := by cases args; simp_all
  obtain ⟨rfl, rfl⟩ := trodVars_none hV
  have lt0 : ∀ x ∈ p0, x.block < W.heap.size := by obtain ⟨m, hm⟩ := h0; exact DataW.trod_lt m _ _ _ hm
  have lt1 : ∀ x ∈ p1, x.block < W.heap.size := by obtain ⟨m, hm⟩ := h1; exact DataW.trod_lt m _ _ _ hm
  have lt2 : ∀ x ∈ p2, x.block < W.heap.size := by obtain ⟨m, hm⟩ := h2; exact DataW.trod_lt m _ _ _ hm
  have fin : ∀ W', Below W.heap.size W W' → Rows.lawS6028BWholeSpec.post enc Yba.prog Yba.f4 false true false false W #[v0, v1, v2] (.bool true) W' := by
    intro W' bel
    refine ⟨_, _, _, [], p0 ++ (p1 ++ (p2 ++ [])), [], hW', trodAll_mk1 (shut_bool Yba.underlying4 _), ?_, rfl, bel.frame _, fun h => by cases h⟩
    exact (trodAll_cons_mk (Below.trod laidOut (by kernel_rfl) (of_decide_eq_true (by kernel_rfl)) h0 bel lt0) (trodAll_cons_mk (Below.trod laidOut (by kernel_rfl) (of_decide_eq_true (by kernel_rfl)) h1 bel lt1) (trodAll_cons_mk (Below.trod laidOut (by kernel_rfl) (of_decide_eq_true (by kernel_rfl)) h2 bel lt2) trodAll_mk0)))
  obtain ⟨a0, len0, cap0, rfl⟩ := okWide_slice Yba.underlying26 (hval 0 26 v0 rfl rfl)
  obtain ⟨a1, len1, cap1, rfl⟩ := okWide_slice Yba.underlying27 (hval 1 27 v1 rfl rfl)
  obtain ⟨pk, rfl, _, _, wk⟩ := open_int Yba.underlying28 (hval 2 28 v2 rfl rfl) h2
  obtain ⟨hl0, raw, hrl, hraw⟩ := open_strs rfl h0
  obtain ⟨hl1, hsz⟩ := open_szs rfl h1
  have hb := bounds_u64 wk
  obtain ⟨pn, rfl⟩ := Int.eq_ofNat_of_zero_le hb.1
  have goal : Calls Yba.prog 4 #[.slice a0 len0 cap0, .slice a1 len1 cap1, .int .u64 (pn : Int)] W fun e w' => e = .returned (.bool true) ∧ Below W.heap.size W w' := by
    by_cases hbig : 65536 < len0 ∨ 65536 < len1
    · exact lawB_big a0 a1 len0 cap0 len1 cap1 pn W hbig hl0 hl1
    · have := lawB_any a0 a1 raw cap0 len1 cap1 pn W (by omega) (by omega) hraw hsz (by have := hb.2; omega)
      rw [hrl] at this
      exact this
  refine goal.mono fun e W' ⟨he, bel⟩ => ?_
  subst he
  exact ⟨_, rfl, fin W' bel⟩

theorem over : Rows.lawS6028BWholeRow.holds Yba.pinned (OpenSpec.ofChange Rows.lawS6028BWholeSpec) :=
  OpenClaim.holds_of_wide 4 Yba.f4 rfl rfl rfl rfl rfl rfl rfl ⟨rfl, rfl, rfl, rfl, rfl⟩ rfl rfl rfl rfl rfl (by kernel_rfl) Yba.func4 (by kernel_rfl)
    (of_decide_eq_true (by kernel_rfl)) (by unfold Func.isWrapper; first | (rw [if_pos (by decide +kernel)]; kernel_rfl) | (rw [if_neg (by decide +kernel)]; exact ⟨rfl, rfl⟩))
    (fun os started H enc _ => lifted os started H enc)

/-- the given statement -/
theorem proved : Rows.LawS6028BWholeSaid :=
  over
end Go.Proofs.Ybulkdtuw.lawS6028BWhole
