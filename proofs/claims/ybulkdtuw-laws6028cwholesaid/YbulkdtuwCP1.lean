import Derived.Test.YbulkdtuwCG3
import Derived.Test.YbulkdtuwCF1
namespace Go.Proofs.YbulkdtuwC

/-- a grant of the law's list -/
structure Gt where
  d : Nat
  g : Bool
  t : ByteArray
  k : ByteArray
  tx : Nat
  m : Nat
instance : Inhabited Gt := ⟨⟨0, false, ByteArray.empty, ByteArray.empty, 0, 0⟩⟩
def Gt.r (e : Gt) : Rs := rs e.d e.g e.t e.k
/-- was the i-th one there before? -/
def dupAt (G : List Gt) (i : Nat) : Prop := ∃ j, j < i ∧ (G.getD j default).tx = (G.getD i default).tx ∧ (G.getD j default).r = (G.getD i default).r
open Classical in
noncomputable def LL (G : List Gt) : Nat → Rs → List (Nat × Nat)
  | 0 => fun _ => []
  | i + 1 => if dupAt G i then LL G i else setL (LL G i) (G.getD i default).r ((G.getD i default).tx, (G.getD i default).m)
theorem LL_dup {G : List Gt} {i : Nat} (h : dupAt G i) : LL G (i + 1) = LL G i := by rw [LL, if_pos h]
theorem LL_new {G : List Gt} {i : Nat} (h : ¬ dupAt G i) : LL G (i + 1) = setL (LL G i) (G.getD i default).r ((G.getD i default).tx, (G.getD i default).m) := by rw [LL, if_neg h]
theorem LL_mem {G : List Gt} : ∀ {i : Nat} {r : Rs} {e : Nat × Nat}, e ∈ LL G i r → ∃ j, j < i ∧ (G.getD j default).tx = e.1 ∧ (G.getD j default).r = r
  | 0, _, _, h => by cases h
  | i + 1, r, e, h => by
    by_cases hd : dupAt G i
    · rw [LL_dup hd] at h
      obtain ⟨j, hj, h1⟩ := LL_mem h
      exact ⟨j, by omega, h1⟩
    · rw [LL_new hd] at h
      by_cases hr : r = (G.getD i default).r
      · subst hr
        rw [setL_same] at h
        rcases List.mem_append.1 h with h | h
        · obtain ⟨j, hj, h1⟩ := LL_mem h
          exact ⟨j, by omega, h1⟩
        · simp at h
          subst h
          exact ⟨i, by omega, rfl, rfl⟩
      · rw [setL_other _ _ hr] at h
        obtain ⟨j, hj, h1⟩ := LL_mem h
        exact ⟨j, by omega, h1⟩
theorem LL_fresh {G : List Gt} {i : Nat} (h : ¬ dupAt G i) : ∀ e ∈ LL G i (G.getD i default).r, e.1 ≠ (G.getD i default).tx := by
  intro e he eq
  obtain ⟨j, hj, h1, h2⟩ := LL_mem he
  exact h ⟨j, hj, by rw [h1, eq], h2⟩
theorem LL_len {G : List Gt} : ∀ (i : Nat) (r : Rs), (LL G i r).length ≤ i
  | 0, _ => by simp [LL]
  | i + 1, r => by
    by_cases hd : dupAt G i
    · rw [LL_dup hd]; have := LL_len (G := G) i r; omega
    · rw [LL_new hd]
      by_cases hr : r = (G.getD i default).r
      · subst hr
        rw [setL_same]
        have := LL_len (G := G) i (G.getD i default).r
        rw [List.length_append]
        exact Nat.add_le_add_right this 1
      · rw [setL_other _ _ hr]; have := LL_len (G := G) i r; omega
/-- the first grant of (tx, r) -/
def firstG (G : List Gt) (r : Rs) (tx : Nat) : Option Nat := (G.find? (fun e => decide (e.tx = tx ∧ e.r = r))).map (·.m)
theorem LL_look {G : List Gt} (r : Rs) (tx : Nat) : ∀ i, i ≤ G.length → look (LL G i r) tx = firstG (G.take i) r tx
  | 0, _ => by simp [LL, look, firstG]
  | i + 1, hi => by
    have ih := LL_look (G := G) r tx i (by omega)
    have hi' : i < G.length := by omega
    have hG : G.getD i default = G[i] := by rw [List.getD_eq_getElem?_getD, List.getElem?_eq_getElem hi']; rfl
    rw [List.take_succ_eq_append_getElem hi']
    have hF : firstG (G.take i ++ [G[i]]) r tx = (firstG (G.take i) r tx).or (if G[i].tx = tx ∧ G[i].r = r then some G[i].m else none) := by
      unfold firstG
      rw [List.find?_append]
      cases (G.take i).find? (fun e => decide (e.tx = tx ∧ e.r = r)) with
      | some e => simp
      | none =>
        by_cases hc : G[i].tx = tx ∧ G[i].r = r
        · simp [hc]
        · simp [hc]
    rw [hF]
    by_cases hd : dupAt G i
    · rw [LL_dup hd, ih]
      by_cases hc : G[i].tx = tx ∧ G[i].r = r
      · obtain ⟨j, hj, h1, h2⟩ := hd
        have hj' : j < G.length := by omega
        have hGj : G.getD j default = G[j] := by rw [List.getD_eq_getElem?_getD, List.getElem?_eq_getElem hj']; rfl
        rw [hGj, hG] at h1 h2
        have hs : (firstG (G.take i) r tx).isSome = true := by
          unfold firstG
          rw [Option.isSome_map, List.find?_isSome]
          exact ⟨G[j], by rw [List.mem_take_iff_getElem]; exact ⟨j, by omega, rfl⟩, by simp [h1, h2, hc]⟩
        cases hf : firstG (G.take i) r tx with
        | none => rw [hf] at hs; cases hs
        | some m => simp
      · rw [if_neg hc]; simp
    · have hfr := LL_fresh hd
      rw [LL_new hd]
      rw [hG] at hfr ⊢
      by_cases hr : r = G[i].r
      · subst hr
        rw [setL_same, look_snoc hfr, ih]
        by_cases hx : tx = G[i].tx
        · subst hx
          have hn : firstG (G.take i) G[i].r G[i].tx = none := by
            rw [← ih]
            unfold look
            rw [Option.map_eq_none_iff, List.find?_eq_none]
            intro e he
            have := hfr e he
            simp
            omega
          rw [hn]
          simp
        · rw [if_neg (by omega), if_neg (by rintro ⟨h1, _⟩; exact hx h1.symm)]
          simp
      · rw [setL_other _ _ hr, ih, if_neg (by rintro ⟨_, h2⟩; exact hr h2.symm)]
        simp
end Go.Proofs.YbulkdtuwC
