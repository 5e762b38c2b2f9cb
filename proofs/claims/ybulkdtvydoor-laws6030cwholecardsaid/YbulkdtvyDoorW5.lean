import Derived.Test.YbulkdtvyDoorW4
import Derived.OwnWalk
import Derived.Deep.LoopGhost
import Derived.Deep.Light
namespace Go.Proofs.YbulkdtvyDoor.M
open Go.RowKit Go.Shelf

abbrev arr6 (a b c d e f : Int) : Value := .agg #[.int .i64 a, .int .i64 b, .int .i64 c, .int .i64 d, .int .i64 e, .int .i64 f]
abbrev arr6u (a b c d e f : Int) : Value := .agg #[.int .u64 a, .int .u64 b, .int .u64 c, .int .u64 d, .int .u64 e, .int .u64 f]

/-- the findings that came in, in memory -/
def FsAt (w : World) (a : Option Addr) (xs : List Fd) : Prop :=
  ∀ j, j < xs.length → ∃ b off, a = some ⟨b, off, none⟩ ∧ b < w.heap.size ∧ ∀ i v, (Fd.enc xs[j]!)[i]? = some v → w.cell? ⟨b, off + j * 6 + i, none⟩ = some v

/-- the first i findings lie in the row D -/
def Filled (D : Array Value) (xs : List Fd) (n i : Nat) : Prop :=
  D.size = n * 6 ∧ (∀ v ∈ D.toList, v.oneCell' = true) ∧ ∀ j, j < i → ∀ q v, (Fd.enc xs[j]!)[q]? = some v → D[j * 6 + q]? = some v

/-- behind make -/
theorem made {w w1 : World} {c0 c1 : Array Value} {n : Nat} {z : Value}
    (hown : w1.ownsRow w.heap.size 31 6 (.slice (some ⟨((w.alloc (.cells c0 23)).alloc (.cells c1 25)).heap.size, 0, none⟩) n n) n (madeCells z.cells (n * 6)).toList)
    (hgrow : ((w.alloc (.cells c0 23)).alloc (.cells c1 25)).grownBy w1 none) (hz : ∀ v ∈ (madeCells z.cells (n * 6)).toList, v.oneCell' = true) (xs : List Fd) :
    Below w.heap.size w w1 ∧ Blk w1 w.heap.size c0 23 ∧ Blk w1 (w.heap.size + 1) c1 25 ∧ ∃ D, Blk w1 (w.heap.size + 1 + 1) D 31 ∧ Filled D xs n 0 := by
  have hsz : ((w.alloc (.cells c0 23)).alloc (.cells c1 25)).heap.size = w.heap.size + 1 + 1 := by simp
  refine ⟨?_, ?_, ?_, ?_⟩
  · refine ((((Below.refl _ _).alloc (Nat.le_refl _) _).alloc (by simp) _).grown hgrow (by simp; omega) (by simp))
  · exact Blk.grown hgrow ((Blk.new w c0 23).alloc _) (by simp)
  · have := Blk.new (w.alloc (.cells c0 23)) c1 25
    simp only [World.size_alloc] at this
    exact Blk.grown hgrow this (by simp)
  · obtain ⟨hl, h | ⟨g, cap, cur, hv, hg, hh, h1, h2, h3, h4⟩⟩ := hown
    · simp at h
    · simp only [Value.slice.injEq, Option.some.injEq, Addr.mk.injEq, and_true, true_and] at hv
      obtain ⟨rfl, rfl⟩ := hv
      rw [hsz] at hh
      refine ⟨cur, hh, h3, ?_, fun j hj => absurd hj (by omega)⟩
      rw [List.take_of_length_le (by simp; omega)] at h4
      rw [h4]; exact hz

theorem six {D : Array Value} {n k : Nat} (hD : D.size = n * 6) (hk : k < n) : ∃ d0 d1 d2 d3 d4 d5, D[k * 6]? = some d0 ∧ D[k * 6 + 1]? = some d1 ∧ D[k * 6 + 2]? = some d2 ∧ D[k * 6 + 3]? = some d3 ∧ D[k * 6 + 4]? = some d4 ∧ D[k * 6 + 5]? = some d5 := by
  have h : ∀ i, i < 6 → ∃ d, D[k * 6 + i]? = some d := fun i hi => ⟨D[k * 6 + i]'(by omega), Array.getElem?_eq_getElem (by omega)⟩
  obtain ⟨d0, e0⟩ := h 0 (by omega)
  obtain ⟨d1, e1⟩ := h 1 (by omega)
  obtain ⟨d2, e2⟩ := h 2 (by omega)
  obtain ⟨d3, e3⟩ := h 3 (by omega)
  obtain ⟨d4, e4⟩ := h 4 (by omega)
  obtain ⟨d5, e5⟩ := h 5 (by omega)
  exact ⟨d0, d1, d2, d3, d4, d5, e0, e1, e2, e3, e4, e5⟩

/-- what holds at the head of the copying loop -/
def L1 (w1 : World) (G : Nat) (xs : List Fd) (n k : Nat) (wr : World) : Prop := ∃ D, Blk wr G D 31 ∧ Filled D xs n k ∧ Below G w1 wr

theorem enc_len (x : Fd) : (Fd.enc x).length = 6 := rfl
theorem set_one {D : Array Value} (h : ∀ v ∈ D.toList, v.oneCell' = true) (i : Nat) {u : Value} (hu : u.oneCell' = true) : ∀ v ∈ (D.setIfInBounds i u).toList, v.oneCell' = true := by
  intro v hv
  rw [Array.toList_setIfInBounds] at hv
  rcases List.mem_or_eq_of_mem_set hv with h1 | h1
  · exact h v h1
  · rw [h1]; exact hu
theorem l1_next {w1 wr : World} {G n k : Nat} {xs : List Fd} {D : Array Value} {x1 x2 x5 x6 : Int} {x3 x4 : ByteArray} (hk : k < n) (bD : Blk wr G D 31) (hF : Filled D xs n k) (hB : Below G w1 wr) (hx : xs[k]! = (x1, x2, x3, x4, x5, x6)) (ob : Obj) :
    L1 w1 G xs n (k + 1) (((((((wr.setCell ⟨G, k * 6, none⟩ (.int .i64 x1)).setCell ⟨G, k * 6 + 1, none⟩ (.int .i64 x2)).setCell ⟨G, k * 6 + 2, none⟩ (.string x3)).setCell ⟨G, k * 6 + 3, none⟩ (.string x4)).setCell ⟨G, k * 6 + 4, none⟩ (.int .i64 x5)).setCell ⟨G, k * 6 + 5, none⟩ (.int .i64 x6)).alloc ob) := by
  refine ⟨_, (((((((bD.same _ _).same _ _).same _ _).same _ _).same _ _).same _ _).alloc ob), ⟨?_, ?_, ?_⟩, ?_⟩
  · simpa using hF.1
  · exact set_one (set_one (set_one (set_one (set_one (set_one hF.2.1 _ rfl) _ rfl) _ rfl) _ rfl) _ rfl) _ rfl
  · intro j hj q v hv
    have hq : q < 6 := by
      have := (List.getElem?_eq_some_iff.1 hv).1
      rw [enc_len] at this; exact this
    have hs := hF.1
    by_cases hjk : j < k
    · have h := hF.2.2 j hjk q v hv
      rw [Array.getElem?_setIfInBounds_ne (by omega), Array.getElem?_setIfInBounds_ne (by omega), Array.getElem?_setIfInBounds_ne (by omega), Array.getElem?_setIfInBounds_ne (by omega), Array.getElem?_setIfInBounds_ne (by omega), Array.getElem?_setIfInBounds_ne (by omega)]
      exact h
    · obtain rfl : j = k := by omega
      rw [hx] at hv
      simp only [Fd.enc, fnd] at hv
      match q, hq with
      | 0, _ => simp at hv; subst hv; simp [Array.getElem?_setIfInBounds]; omega
      | 1, _ => simp at hv; subst hv; simp [Array.getElem?_setIfInBounds]; omega
      | 2, _ => simp at hv; subst hv; simp [Array.getElem?_setIfInBounds]; omega
      | 3, _ => simp at hv; subst hv; simp [Array.getElem?_setIfInBounds]; omega
      | 4, _ => simp at hv; subst hv; simp [Array.getElem?_setIfInBounds]; omega
      | 5, _ => simp at hv; subst hv; simp [Array.getElem?_setIfInBounds]; omega
  · exact ((((((hB.setCell (Nat.le_refl _) _).setCell (Nat.le_refl _) _).setCell (Nat.le_refl _) _).setCell (Nat.le_refl _) _).setCell (Nat.le_refl _) _).setCell (Nat.le_refl _) _).alloc (by have := bD.lt; simp; omega) _

/-- a tally's shown, its last, as the law lays them -/
def svf (n : Nat) (s : Int) : Int := if n = 0 ∧ 3 ≤ s then 2 else s
def lvf (n : Nat) (l : Int) : Int := if n = 0 then 0 else l % (n : Int)
def tv (i k : Nat) (x : Int) : Int := if k ≤ i then x else 0
/-- the report's cells when i tallies are laid -/
def repC (fl : Value) (i n : Nat) (s0 s1 s2 s3 s4 s5 l0 l1 l2 l3 l4 l5 : Int) : Array Value :=
  #[fl, .slice none 0 0, .slice none 0 0, .slice none 0 0, .map none, .string ⟨#[]⟩, .pointer none, .int .i64 0, .int .i64 0, .int .i64 0, .int .i64 0, .int .i64 0, .int .i64 0, .int .i64 0, .int .i64 0, .int .i64 0, .int .i64 0, .int .i64 (tv i 1 (svf n s0)), .int .i64 (tv i 1 (lvf n l0)), .int .i64 (tv i 2 (svf n s1)), .int .i64 (tv i 2 (lvf n l1)), .int .i64 (tv i 3 (svf n s2)), .int .i64 (tv i 3 (lvf n l2)), .int .i64 (tv i 4 (svf n s3)), .int .i64 (tv i 4 (lvf n l3)), .int .i64 (tv i 5 (svf n s4)), .int .i64 (tv i 5 (lvf n l4)), .int .i64 (tv i 6 (svf n s5)), .int .i64 (tv i 6 (lvf n l5))]
theorem lvf_pos {n : Nat} (h : 1 ≤ n) (l : Int) : lvf n l = l % (n : Int) := if_neg (by omega)
theorem lvf_zero {n : Nat} (h : n = 0) (l : Int) : lvf n l = 0 := if_pos h
theorem lvf_tmod {n : Nat} (h : 1 ≤ n) (hn : n ≤ 1048576) (l : Int) : wrap64 (l % (n : Int)) = lvf n l := by
  rw [lvf_pos h]
  have h1 := Int.emod_nonneg l (show (n : Int) ≠ 0 by omega)
  have h2 := Int.emod_lt_of_pos l (show (0 : Int) < (n : Int) by omega)
  generalize l % (n : Int) = x at *
  unfold wrap64; omega
theorem svf_big {n : Nat} (h : n = 0) {s : Int} (hs : 3 ≤ s) : svf n s = 2 := if_pos ⟨h, hs⟩
theorem svf_small {n : Nat} {s : Int} (hs : ¬ 3 ≤ s) : svf n s = s := if_neg (fun h => hs h.2)
theorem svf_pos {n : Nat} (h : 1 ≤ n) (s : Int) : svf n s = s := if_neg (by omega)
theorem rep_0 (fl : Value) (n : Nat) (s0 s1 s2 s3 s4 s5 l0 l1 l2 l3 l4 l5 : Int) : repC fl 0 n s0 s1 s2 s3 s4 s5 l0 l1 l2 l3 l4 l5 =
    #[fl, .slice none 0 0, .slice none 0 0, .slice none 0 0, .map none, .string ⟨#[]⟩, .pointer none, .int .i64 0, .int .i64 0, .int .i64 0, .int .i64 0, .int .i64 0, .int .i64 0, .int .i64 0, .int .i64 0, .int .i64 0, .int .i64 0, .int .i64 0, .int .i64 0, .int .i64 0, .int .i64 0, .int .i64 0, .int .i64 0, .int .i64 0, .int .i64 0, .int .i64 0, .int .i64 0, .int .i64 0, .int .i64 0] := rfl
theorem rep_1 (fl : Value) (n : Nat) (s0 s1 s2 s3 s4 s5 l0 l1 l2 l3 l4 l5 : Int) : repC fl 1 n s0 s1 s2 s3 s4 s5 l0 l1 l2 l3 l4 l5 =
    #[fl, .slice none 0 0, .slice none 0 0, .slice none 0 0, .map none, .string ⟨#[]⟩, .pointer none, .int .i64 0, .int .i64 0, .int .i64 0, .int .i64 0, .int .i64 0, .int .i64 0, .int .i64 0, .int .i64 0, .int .i64 0, .int .i64 0, .int .i64 (svf n s0), .int .i64 (lvf n l0), .int .i64 0, .int .i64 0, .int .i64 0, .int .i64 0, .int .i64 0, .int .i64 0, .int .i64 0, .int .i64 0, .int .i64 0, .int .i64 0] := rfl
theorem rep_2 (fl : Value) (n : Nat) (s0 s1 s2 s3 s4 s5 l0 l1 l2 l3 l4 l5 : Int) : repC fl 2 n s0 s1 s2 s3 s4 s5 l0 l1 l2 l3 l4 l5 =
    #[fl, .slice none 0 0, .slice none 0 0, .slice none 0 0, .map none, .string ⟨#[]⟩, .pointer none, .int .i64 0, .int .i64 0, .int .i64 0, .int .i64 0, .int .i64 0, .int .i64 0, .int .i64 0, .int .i64 0, .int .i64 0, .int .i64 0, .int .i64 (svf n s0), .int .i64 (lvf n l0), .int .i64 (svf n s1), .int .i64 (lvf n l1), .int .i64 0, .int .i64 0, .int .i64 0, .int .i64 0, .int .i64 0, .int .i64 0, .int .i64 0, .int .i64 0] := rfl
theorem rep_3 (fl : Value) (n : Nat) (s0 s1 s2 s3 s4 s5 l0 l1 l2 l3 l4 l5 : Int) : repC fl 3 n s0 s1 s2 s3 s4 s5 l0 l1 l2 l3 l4 l5 =
    #[fl, .slice none 0 0, .slice none 0 0, .slice none 0 0, .map none, .string ⟨#[]⟩, .pointer none, .int .i64 0, .int .i64 0, .int .i64 0, .int .i64 0, .int .i64 0, .int .i64 0, .int .i64 0, .int .i64 0, .int .i64 0, .int .i64 0, .int .i64 (svf n s0), .int .i64 (lvf n l0), .int .i64 (svf n s1), .int .i64 (lvf n l1), .int .i64 (svf n s2), .int .i64 (lvf n l2), .int .i64 0, .int .i64 0, .int .i64 0, .int .i64 0, .int .i64 0, .int .i64 0] := rfl
theorem rep_4 (fl : Value) (n : Nat) (s0 s1 s2 s3 s4 s5 l0 l1 l2 l3 l4 l5 : Int) : repC fl 4 n s0 s1 s2 s3 s4 s5 l0 l1 l2 l3 l4 l5 =
    #[fl, .slice none 0 0, .slice none 0 0, .slice none 0 0, .map none, .string ⟨#[]⟩, .pointer none, .int .i64 0, .int .i64 0, .int .i64 0, .int .i64 0, .int .i64 0, .int .i64 0, .int .i64 0, .int .i64 0, .int .i64 0, .int .i64 0, .int .i64 (svf n s0), .int .i64 (lvf n l0), .int .i64 (svf n s1), .int .i64 (lvf n l1), .int .i64 (svf n s2), .int .i64 (lvf n l2), .int .i64 (svf n s3), .int .i64 (lvf n l3), .int .i64 0, .int .i64 0, .int .i64 0, .int .i64 0] := rfl
theorem rep_5 (fl : Value) (n : Nat) (s0 s1 s2 s3 s4 s5 l0 l1 l2 l3 l4 l5 : Int) : repC fl 5 n s0 s1 s2 s3 s4 s5 l0 l1 l2 l3 l4 l5 =
    #[fl, .slice none 0 0, .slice none 0 0, .slice none 0 0, .map none, .string ⟨#[]⟩, .pointer none, .int .i64 0, .int .i64 0, .int .i64 0, .int .i64 0, .int .i64 0, .int .i64 0, .int .i64 0, .int .i64 0, .int .i64 0, .int .i64 0, .int .i64 (svf n s0), .int .i64 (lvf n l0), .int .i64 (svf n s1), .int .i64 (lvf n l1), .int .i64 (svf n s2), .int .i64 (lvf n l2), .int .i64 (svf n s3), .int .i64 (lvf n l3), .int .i64 (svf n s4), .int .i64 (lvf n l4), .int .i64 0, .int .i64 0] := rfl
theorem rep_6 (fl : Value) (n : Nat) (s0 s1 s2 s3 s4 s5 l0 l1 l2 l3 l4 l5 : Int) : repC fl 6 n s0 s1 s2 s3 s4 s5 l0 l1 l2 l3 l4 l5 =
    #[fl, .slice none 0 0, .slice none 0 0, .slice none 0 0, .map none, .string ⟨#[]⟩, .pointer none, .int .i64 0, .int .i64 0, .int .i64 0, .int .i64 0, .int .i64 0, .int .i64 0, .int .i64 0, .int .i64 0, .int .i64 0, .int .i64 0, .int .i64 (svf n s0), .int .i64 (lvf n l0), .int .i64 (svf n s1), .int .i64 (lvf n l1), .int .i64 (svf n s2), .int .i64 (lvf n l2), .int .i64 (svf n s3), .int .i64 (lvf n l3), .int .i64 (svf n s4), .int .i64 (lvf n l4), .int .i64 (svf n s5), .int .i64 (lvf n l5)] := rfl

end Go.Proofs.YbulkdtvyDoor.M
