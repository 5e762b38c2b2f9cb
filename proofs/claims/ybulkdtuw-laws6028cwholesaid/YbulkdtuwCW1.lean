import Derived.Test.YbulkdtuwRows
import Derived.Test.YbulkdtuwAWalks
import Derived.Test.YbulkdtuwBMem
import Derived.Test.YbulkdtuwCMap
import Derived.WalkKit
import Derived.ProofKit
import Derived.WalkLawsBesides
import Derived.WalkSpells
import Derived.Deep.QuietTactic
import Derived.BigQuiet
import Derived.LoopTactic
import Derived.Deep.LoopGhost
import Derived.Lib.Strings
import Derived.Handy
namespace Go.Proofs.YbulkdtuwC
open Go.RowKit Go.Proofs.YbulkdtuwB Go.Proofs.Ybulkdtuw.A

/-- what a resource is -/
inductive Rs where
  | store
  | tab (t : ByteArray)
  | key (g : Bool) (t k : ByteArray)
  deriving DecidableEq
def pn (t k : ByteArray) : Nat := fnv (strm t k) % 16
def u8 (n : Nat) : Value := .int .u8 (n : Int)
def resC : Rs → Array Value
  | .store => #[.int .u8 0, .int .u8 0, .int .u8 0, .string ⟨#[]⟩, .string ⟨#[]⟩]
  | .tab t => #[.int .u8 1, .int .u8 0, .int .u8 0, .string t, .string ⟨#[]⟩]
  | .key g t k => #[.int .u8 2, .int .u8 (if g then 1 else 0), .int .u8 (pn t k : Nat), .string t, .string k]
def rs (d : Nat) (g : Bool) (t k : ByteArray) : Rs := if d % 3 = 0 then .store else if d % 3 = 1 then .tab t else .key g t k

theorem erefl (w : World) : Ext (fun _ => False) w w := ⟨rfl, rfl, rfl, Nat.le_refl _, fun _ _ _ => rfl⟩
theorem ecomp {a b c : World} (h : Ext (fun _ => False) a b) (k : Ext (fun _ => False) b c) : Ext (fun _ => False) a c := (h.trans k).mono (fun _ _ e => by rcases e with e | e <;> exact e)
/-- a store into a block of the call's own -/
theorem eown {a b : World} (h : Ext (fun _ => False) a b) (ad : Addr) (v : Value) (hb : a.heap.size ≤ ad.block) : Ext (fun _ => False) a (b.setCell ad v) := (h.trans (Ext.set b ad v)).mono (fun k hk e => by rcases e with e | e; exact e; omega)

theorem toList_beq (a b : ByteArray) : (a.toList == b.toList) = decide (a = b) := by
  rw [Lib.toList_data, Lib.toList_data]
  by_cases h : a = b
  · subst h; simp
  · rw [decide_eq_false h, beq_eq_false_iff_ne]
    intro e
    apply h
    apply ByteArray.ext
    cases a; cases b
    simp at e
    simpa using e

theorem partR_any (a b d e : Value) (x : Nat) (hx : x < 16) (w : World) : Calls Yba.prog 22 #[.agg #[a, b, .int .u8 (x : Nat), d, e]] w fun e' w' => e' = .returned (.int .i64 (x : Nat)) ∧ Ext (fun _ => False) w w' := by
  go_enter Yba.func22, Yba.ntmps22
  go_wp2
  go_ret
  exact ⟨rfl, Ext.alloc _ _⟩
theorem partT_any (x : Nat) (w : World) : Calls Yba.prog 15 #[.int .u64 (x : Nat)] w fun e' w' => e' = .returned (.int .i64 (x % 16 : Nat)) ∧ w' = w := by
  go_enter Yba.func15, Yba.ntmps15
  go_wp2
  go_ret
  refine ⟨?_, rfl⟩
  congr 2
theorem tabR_any (t : ByteArray) (w : World) : Calls Yba.prog 23 #[.string t] w fun e' w' => e' = .returned (.agg (resC (.tab t))) ∧ w' = w.alloc (.cells (resC (.tab t)) 49) := by
  go_enter Yba.func23, Yba.ntmps23
  go_wp2
  go_returns
  exact ⟨rfl, rfl⟩
theorem keyR_any (g : Bool) (t k : ByteArray) (w : World) (ht : t.size ≤ maxLen) (hk : k.size ≤ maxLen) (x : Int) (hx : x = if g then 1 else 0) : Calls Yba.prog 43 #[.int .u8 x, .string t, .string k] w fun e' w' => e' = .returned (.agg (resC (.key g t k))) ∧ w' = w.alloc (.cells (resC (.key g t k)) 49) := by
  have hp := fun w => part_any t k w ht hk
  obtain ⟨y, hy⟩ : ∃ y, fnv (strm t k) % 16 = y := ⟨_, rfl⟩
  simp only [hy] at hp
  have HX := hide hx
  have HY := hide hy
  clear hx hy
  go_enter Yba.func43, Yba.ntmps43
  go_wp2_with (go_at_call 7; refine (hp _).mono ?_; rintro e w1 ⟨rfl, rfl⟩)
  go_returns
  rw [resC, pn, HY.out, HX.out]
  exact ⟨rfl, rfl⟩
theorem gapR_any (t k : ByteArray) (w : World) (ht : t.size ≤ maxLen) (hk : k.size ≤ maxLen) : Calls Yba.prog 24 #[.string t, .string k] w fun e' w' => e' = .returned (.agg (resC (.key true t k))) ∧ w' = (w.alloc (.cells (resC (.key true t k)) 49)).alloc (.cells (resC (.key true t k)) 49) := by
  have hp := fun w => keyR_any true t k w ht hk 1 rfl
  simp only [resC, if_true] at hp ⊢
  generalize pn t k = y at hp ⊢
  go_enter Yba.func24, Yba.ntmps24
  go_wp2_with (go_at_call 43; refine (hp _).mono ?_; rintro e w1 ⟨rfl, rfl⟩)
  go_returns
  exact ⟨rfl, rfl⟩
theorem atR_any (t k : ByteArray) (w : World) (ht : t.size ≤ maxLen) (hk : k.size ≤ maxLen) : Calls Yba.prog 25 #[.string t, .string k] w fun e' w' => e' = .returned (.agg (resC (.key false t k))) ∧ w' = (w.alloc (.cells (resC (.key false t k)) 49)).alloc (.cells (resC (.key false t k)) 49) := by
  have hp := fun w => keyR_any false t k w ht hk 0 rfl
  simp only [resC, Bool.false_eq_true, if_false] at hp ⊢
  generalize pn t k = y at hp ⊢
  go_enter Yba.func25, Yba.ntmps25
  go_wp2_with (go_at_call 43; refine (hp _).mono ?_; rintro e w1 ⟨rfl, rfl⟩)
  go_returns
  exact ⟨rfl, rfl⟩
theorem res_any (d : Nat) (hd : d < 256) (g : Bool) (t k : ByteArray) (w : World) (ht : t.size ≤ maxLen) (hk : k.size ≤ maxLen) : Calls Yba.prog 14 #[.int .u8 (d : Nat), .bool g, .string t, .string k] w fun e' w' => e' = .returned (.agg (resC (rs d g t k))) ∧ Ext (fun _ => False) w w' := by
  have h1 := fun w => tabR_any t w
  have h2 := fun w => gapR_any t k w ht hk
  have h3 := fun w => atR_any t k w ht hk
  have hm : ((d : Nat) : Int) % 3 = ((d % 3 : Nat) : Int) := by omega
  have hlt : d % 3 < 3 := Nat.mod_lt _ (by omega)
  unfold rs
  generalize d % 3 = m at hm hlt ⊢
  simp only [resC] at h1 h2 h3
  simp only [if_true, Bool.false_eq_true, if_false] at h2 h3
  by_cases hm0 : m = 0
  · subst hm0
    rw [if_pos rfl]
    go_enter Yba.func14, Yba.ntmps14
    go_wp2
    go_returns
    exact ⟨rfl, Ext.alloc _ _⟩
  · rw [if_neg hm0]
    by_cases hm1 : m = 1
    · subst hm1
      rw [if_pos rfl]
      go_enter Yba.func14, Yba.ntmps14
      go_wp2_with (go_at_call 23; refine (h1 _).mono ?_; rintro e w1 ⟨rfl, rfl⟩)
      go_returns
      exact ⟨rfl, ecomp (Ext.alloc _ _) (Ext.alloc _ _)⟩
    · obtain rfl : m = 2 := by omega
      rw [if_neg (by omega)]
      simp only [resC]
      generalize pn t k = y at h2 h3 ⊢
      cases g with
      | true =>
        go_enter Yba.func14, Yba.ntmps14
        go_wp2_with (go_at_call 24; refine (h2 _).mono ?_; rintro e w1 ⟨rfl, rfl⟩)
        go_returns
        exact ⟨rfl, ecomp (Ext.alloc _ _) (ecomp (Ext.alloc _ _) (Ext.alloc _ _))⟩
      | false =>
        go_enter Yba.func14, Yba.ntmps14
        go_wp2_with (go_at_call 25; refine (h3 _).mono ?_; rintro e w1 ⟨rfl, rfl⟩)
        go_returns
        exact ⟨rfl, ecomp (Ext.alloc _ _) (ecomp (Ext.alloc _ _) (Ext.alloc _ _))⟩
theorem same_any (d1 d2 : Nat) (hd1 : d1 < 256) (hd2 : d2 < 256) (g1 g2 : Bool) (t1 k1 t2 k2 : ByteArray) (w : World) :
    Calls Yba.prog 12 #[.int .u8 (d1 : Nat), .bool g1, .string t1, .string k1, .int .u8 (d2 : Nat), .bool g2, .string t2, .string k2] w fun e' w' => e' = .returned (.bool (decide (rs d1 g1 t1 k1 = rs d2 g2 t2 k2))) ∧ w' = w := by
  have hm1 : ((d1 : Nat) : Int) % 3 = ((d1 % 3 : Nat) : Int) := by omega
  have hm2 : ((d2 : Nat) : Int) % 3 = ((d2 % 3 : Nat) : Int) := by omega
  have hlt1 : d1 % 3 < 3 := Nat.mod_lt _ (by omega)
  have hlt2 : d2 % 3 < 3 := Nat.mod_lt _ (by omega)
  unfold rs
  generalize d1 % 3 = m1 at hm1 hlt1 ⊢
  generalize d2 % 3 = m2 at hm2 hlt2 ⊢
  by_cases hne : m1 = m2
  · subst hne
    by_cases h0 : m1 = 0
    · subst h0
      rw [if_pos rfl, if_pos rfl]
      go_enter Yba.func12, Yba.ntmps12
      go_wp2
      go_ret
      exact ⟨by simp, rfl⟩
    · rw [if_neg h0, if_neg h0]
      by_cases h1 : m1 = 1
      · subst h1
        rw [if_pos rfl, if_pos rfl]
        have hbt := toList_beq t1 t2
        by_cases ht : t1 = t2
        · subst ht
          go_enter Yba.func12, Yba.ntmps12
          go_wp2
          go_ret
          exact ⟨by simp, rfl⟩
        · rw [decide_eq_false ht] at hbt
          have HT := hide ht
          clear ht
          go_enter Yba.func12, Yba.ntmps12
          go_wp2
          go_ret
          exact ⟨by simp [HT.out], rfl⟩
      · obtain rfl : m1 = 2 := by omega
        rw [if_neg (by omega), if_neg (by omega)]
        have hbt := toList_beq t1 t2
        have hbk := toList_beq k1 k2
        by_cases hg : g1 = g2
        · subst hg
          by_cases ht : t1 = t2
          · subst ht
            by_cases hk : k1 = k2
            · subst hk
              go_enter Yba.func12, Yba.ntmps12
              go_wp2
              go_ret
              exact ⟨by simp, rfl⟩
            · rw [decide_eq_false hk] at hbk
              have HT := hide hk
              clear hk
              go_enter Yba.func12, Yba.ntmps12
              go_wp2
              go_ret
              exact ⟨by simp [HT.out], rfl⟩
          · rw [decide_eq_false ht] at hbt
            have HT := hide ht
            clear ht hbk
            go_enter Yba.func12, Yba.ntmps12
            go_wp2
            go_ret
            exact ⟨by simp [HT.out], rfl⟩
        · have hgb : (g1 == g2) = false := by simpa using hg
          clear hbt hbk
          go_enter Yba.func12, Yba.ntmps12
          go_wp2
          go_ret
          exact ⟨by simp [hg], rfl⟩
  · have hni : ¬ ((m1 : Nat) : Int) = ((m2 : Nat) : Int) := by omega
    have hdf : decide ((if m1 = 0 then Rs.store else if m1 = 1 then Rs.tab t1 else Rs.key g1 t1 k1) = (if m2 = 0 then Rs.store else if m2 = 1 then Rs.tab t2 else Rs.key g2 t2 k2)) = false := by
      apply decide_eq_false
      have : m1 = 0 ∨ m1 = 1 ∨ m1 = 2 := by omega
      have : m2 = 0 ∨ m2 = 1 ∨ m2 = 2 := by omega
      rcases ‹m1 = 0 ∨ m1 = 1 ∨ m1 = 2› with rfl | rfl | rfl <;> rcases ‹m2 = 0 ∨ m2 = 1 ∨ m2 = 2› with rfl | rfl | rfl <;> first | exact absurd rfl hne | simp
    rw [hdf]
    clear hdf hne
    go_enter Yba.func12, Yba.ntmps12
    go_wp2
    go_ret
    exact ⟨rfl, rfl⟩
end Go.Proofs.YbulkdtuwC
