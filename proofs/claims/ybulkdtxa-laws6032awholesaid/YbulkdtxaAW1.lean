import Derived.Test.YbulkdtxaRows
import Derived.Test.YbulkdtxaAMem
import Derived.WalkKit
import Derived.ProofKit
import Derived.WalkLawsBesides
import Derived.WalkSpells
import Derived.Deep.QuietTactic
import Derived.BigQuiet
import Derived.LoopTactic
import Derived.Deep.LoopGhost
namespace Go.Proofs.YbulkdtxaA
open Go.RowKit

/-- a string of these bytes -/
def str (l : List UInt8) : ByteArray := ⟨l.toArray⟩
theorem str_of (s : ByteArray) : s = str s.data.toList := by cases s; rfl
theorem str_size (l : List UInt8) : (str l).size = l.length := by simp [str, ByteArray.size]
theorem str_inj {a b : List UInt8} (h : str a = str b) : a = b := by
  unfold str at h; injection h with h; simpa using h
theorem str_at (l : List UInt8) (i : Nat) (h : i < (str l).size) : (str l)[i] = l[i]'(by rw [str_size] at h; exact h) := by
  show l.toArray[i]'(by simpa [str_size] using h) = _
  simp

/-- a first subtag, and what follows the dash behind it -/
def hdS (l : List UInt8) : List UInt8 := l.takeWhile (fun c => decide (c ≠ 45))
def tlS (l : List UInt8) : List UInt8 := (l.dropWhile (fun c => decide (c ≠ 45))).drop 1

theorem cut_list {a b : List UInt8} (h : ∀ x ∈ a, x ≠ 45) : hdS (a ++ 45 :: b) = a ∧ tlS (a ++ 45 :: b) = b := by
  have hall : ∀ x ∈ a, decide (x ≠ 45) = true := fun x hx => by simpa using h x hx
  constructor
  · unfold hdS
    rw [List.takeWhile_append_of_pos hall]
    simp
  · unfold tlS
    rw [List.dropWhile_append_of_pos hall]
    simp
theorem cut_at {l : List UInt8} {n : Nat} (hn : n < l.length) (h : ∀ j (hj : j < l.length), j < n → l[j] ≠ 45) (h45 : l[n] = 45) : hdS l = l.take n ∧ tlS l = l.drop (n + 1) := by
  have e : l = l.take n ++ (45 :: l.drop (n + 1)) := by
    conv => lhs; rw [← List.take_append_drop n l, List.drop_eq_getElem_cons hn, h45]
  have := cut_list (a := l.take n) (b := l.drop (n + 1)) (by
    intro x hx
    obtain ⟨j, hj, rfl⟩ := List.getElem_of_mem hx
    have hj' : j < n := by simp at hj; omega
    simpa using h j (by omega) hj')
  rw [← e] at this
  exact this
theorem cut_none {l : List UInt8} (h : ∀ j (hj : j < l.length), l[j] ≠ 45) : hdS l = l ∧ tlS l = [] := by
  have hall : ∀ x ∈ l, decide (x ≠ 45) = true := by
    intro x hx
    obtain ⟨j, hj, rfl⟩ := List.getElem_of_mem hx
    simpa using h j hj
  constructor
  · unfold hdS
    have := List.takeWhile_append_of_pos (l₂ := []) hall
    simpa using this
  · unfold tlS
    have := List.dropWhile_append_of_pos (l₂ := []) hall
    simp at this
    simp [this]

theorem ext_take (l : List UInt8) (n : Nat) : (str l).extract 0 n = str (l.take n) := by
  unfold str ByteArray.extract ByteArray.copySlice
  simp
theorem ext_drop (l : List UInt8) (n : Nat) : (str l).extract n (str l).size = str (l.drop n) := by
  rw [str_size]
  apply ByteArray.ext
  simp [str, List.take_of_length_le]

set_option maxHeartbeats 1000000 in
theorem next_any (l : List UInt8) (w : World) (hs : l.length ≤ 2097152) :
    Calls Yba.prog 15 #[.string (str l)] w fun e w' => e = .returned (.tuple #[.string (str (hdS l)), .string (str (tlS l))]) ∧ ∃ q, w' = w.drewN q := by
  have hsz := str_size l
  obtain ⟨s, hS⟩ : ∃ s, s = str l := ⟨_, rfl⟩
  rw [← hS] at hsz ⊢
  have HS := hide hS
  clear hS
  go_enter Yba.func15, Yba.ntmps15
  go_wp2
  go_loopg [7] l.length (fun f j wr => ∃ n : Nat, n ≤ l.length ∧ l.length - n ≤ f ∧ j = .int .i64 n ∧ wr = w ∧ Hid (∀ i (hi : i < l.length), i < n → l[i] ≠ 45))
  case atStart => exact ⟨0, by omega, by omega, rfl, rfl, fun i _ h => absurd h (by omega)⟩
  case round =>
    obtain ⟨n, hn, hg, rfl, rfl, hnone⟩ := hrel
    by_cases hlt : n < l.length
    · have hi : s[n]'(by omega) = l[n] := by
        have := str_at l n (by rw [str_size]; exact hlt)
        simp only [HS.out, this]
      obtain ⟨c, hc⟩ : ∃ c, l[n] = c := ⟨_, rfl⟩
      rw [hc] at hi
      have HC := hide hc
      clear hc
      by_cases h45 : c = 45
      · subst h45
        have hcut := cut_at hlt hnone.out HC.out
        have HCUT := hide hcut
        clear hcut
        go_wp2_with fail
        go_quiet (fail)
        go_wp2_with fail
        go_ret2
        refine ⟨?_, _, rfl⟩
        have e2 : (str l).extract (n + 1) l.length = str (l.drop (n + 1)) := by rw [← ext_drop, str_size]
        rw [HCUT.out.1, HCUT.out.2, HS.out, ext_take, e2]
        rfl
      · have hb : ((c.toNat : Int) == 45) = false := by
          rw [beq_eq_false_iff_ne]
          intro h
          apply h45
          have : c.toNat = 45 := by omega
          exact UInt8.toNat_inj.1 this
        go_wp2_with fail
        go_roundg (l.length - (n + 1))
        case measure => omega
        case rel =>
          refine ⟨n + 1, by omega, by omega, by go_num, rfl, ?_⟩
          intro i hi' hin
          rcases Nat.lt_or_eq_of_le (Nat.le_of_lt_succ hin) with h | h
          · exact hnone.out i hi' h
          · subst h; rw [HC.out]; exact h45
    · have hcut := cut_none (l := l) (fun i hi => hnone.out i hi (by omega))
      have HCUT := hide hcut
      clear hcut
      go_wp2
      go_ret2
      refine ⟨?_, 0, rfl⟩
      rw [HCUT.out.1, HCUT.out.2, HS.out]
      rfl
end Go.Proofs.YbulkdtxaA
