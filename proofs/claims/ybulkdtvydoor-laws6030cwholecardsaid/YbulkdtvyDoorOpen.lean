import Derived.Test.YbulkdtvyDoorW8
import Derived.Test.YbulkdtvyDoorW9
import Derived.ProofKit
import Derived.OpenShut
import Derived.ShutString
import Derived.ChangeOld
import Derived.OpenVars
import Derived.LaidMore
import Derived.Stop.Joined
import Derived.Deep.Slices
namespace Go.Proofs.YbulkdtvyDoor.M
open Go.ChangeShapes Go.WideShapes Go.ChangeAt Go.RowKit Go.Deep

section
variable {H : Type} {enc : TypeId × Value → H} {P : Program} {W : World} {base : Nat} {sp : Nat → Bool} {held : Bool}

theorem array6 {xs : Array Value} (h : xs.size = 6) : ∃ a b c d e f, xs = #[a, b, c, d, e, f] := by
  obtain ⟨l⟩ := xs
  match l, h with
  | [a, b, c, d, e, f], _ => exact ⟨a, b, c, d, e, f, rfl⟩

/-- an array of six integers, by value -/
theorem open_arr6 {r : Reach} {b0 : Nat} {t e : TypeId} {k : IntKind} {v : Value} {d : DataW H} {p : List MemPlace} (ht : P.underlying t = some (.array 6 e)) (he : P.underlying e = some (.int k)) (hc : P.cellsOf e = 1) (hC : P.cellsOf t = 6)
    (hv : Value.okWide P W r b0 t v) (h : DataW.Trod enc P W base sp held t v d p) :
    ∃ x0 x1 x2 x3 x4 x5 : Int, v = .agg #[.int k x0, .int k x1, .int k x2, .int k x3, .int k x4, .int k x5] ∧
      (Lit.int k x0).wf = true ∧ (Lit.int k x1).wf = true ∧ (Lit.int k x2).wf = true ∧ (Lit.int k x3).wf = true ∧ (Lit.int k x4).wf = true ∧ (Lit.int k x5).wf = true := by
  unfold Value.okWide at hv
  rw [ht] at hv
  obtain ⟨cs, rfl, hsz, _⟩ := hv
  rw [hC] at hsz
  obtain ⟨a, b, c, d', e', f, rfl⟩ := array6 hsz
  obtain ⟨fuel, hf⟩ := h
  obtain ⟨xs, m, _, _, _, hl, hel⟩ := DataW.trod_array ht hf
  rw [hc] at hel
  have one : ∀ i (c0 : Value), i < 6 → (((Value.agg #[a, b, c, d', e', f]).cells.toList.drop (i * 1)).take 1 = [c0]) → ∃ x, c0 = .int k x ∧ (Lit.int k x).wf = true := by
    intro i c0 hi hh
    have h1 := hel i hi
    rw [hh] at h1
    obtain ⟨y, hy⟩ : ∃ y, xs[i]? = some y := ⟨xs[i]'(by omega), List.getElem?_eq_getElem (by omega)⟩
    rw [hy] at h1
    obtain ⟨x, e1, _, e3⟩ := DataW.trod_int he h1
    simp at e1
    exact ⟨x, e1, e3⟩
  obtain ⟨x0, rfl, w0⟩ := one 0 _ (by omega) rfl
  obtain ⟨x1, rfl, w1⟩ := one 1 _ (by omega) rfl
  obtain ⟨x2, rfl, w2⟩ := one 2 _ (by omega) rfl
  obtain ⟨x3, rfl, w3⟩ := one 3 _ (by omega) rfl
  obtain ⟨x4, rfl, w4⟩ := one 4 _ (by omega) rfl
  obtain ⟨x5, rfl, w5⟩ := one 5 _ (by omega) rfl
  exact ⟨x0, x1, x2, x3, x4, x5, rfl, w0, w1, w2, w3, w4, w5⟩

theorem list6 {l : List Value} (h : l.length = 6) : ∃ a b c d e f, l = [a, b, c, d, e, f] := by
  match l, h with
  | [a, b, c, d, e, f], _ => exact ⟨a, b, c, d, e, f, rfl⟩
theorem cells28 : Ybad.prog.cellsOf 28 = 6 := by kernel_rfl
theorem cells3 : Ybad.prog.cellsOf 3 = 1 := by kernel_rfl
theorem cells9 : Ybad.prog.cellsOf 9 = 1 := by kernel_rfl
theorem cells24 : Ybad.prog.cellsOf 24 = 1 := by kernel_rfl
theorem cells23 : Ybad.prog.cellsOf 23 = 6 := by kernel_rfl
theorem cells25 : Ybad.prog.cellsOf 25 = 6 := by kernel_rfl
theorem cells57 : Ybad.prog.cellsOf 57 = 7 := by kernel_rfl

/-- one finding, opened -/
theorem open_fd {fuel : Nat} {cs : List Value} {x : DataW H × List MemPlace} (h : DataW.trod enc Ybad.prog W base sp held fuel 28 cs = some x) : ∃ f : Fd, cs = Fd.enc f := by
  obtain ⟨xs, n, _, _, hlen, hxl, hel⟩ := DataW.trod_struct Ybad.underlying28 h
  rw [cells28] at hlen
  obtain ⟨a, b, c, d, e, f, rfl⟩ := list6 hlen
  have h6 : xs.length = 6 := hxl
  have get : ∀ i, i < 6 → ∃ y, xs[i]? = some y := fun i hi => ⟨xs[i]'(by omega), List.getElem?_eq_getElem (by omega)⟩
  obtain ⟨y0, g0⟩ := get 0 (by omega)
  obtain ⟨y1, g1⟩ := get 1 (by omega)
  obtain ⟨y2, g2⟩ := get 2 (by omega)
  obtain ⟨y3, g3⟩ := get 3 (by omega)
  obtain ⟨y4, g4⟩ := get 4 (by omega)
  obtain ⟨y5, g5⟩ := get 5 (by omega)
  have k0 : DataW.trod enc Ybad.prog W base sp held n 3 (([a, b, c, d, e, f].drop 0).take (Ybad.prog.cellsOf 3)) = some y0 := (hel 0 _ rfl).trans g0
  have k1 : DataW.trod enc Ybad.prog W base sp held n 3 (([a, b, c, d, e, f].drop 1).take (Ybad.prog.cellsOf 3)) = some y1 := (hel 1 _ rfl).trans g1
  have k2 : DataW.trod enc Ybad.prog W base sp held n 9 (([a, b, c, d, e, f].drop 2).take (Ybad.prog.cellsOf 9)) = some y2 := (hel 2 _ rfl).trans g2
  have k3 : DataW.trod enc Ybad.prog W base sp held n 9 (([a, b, c, d, e, f].drop 3).take (Ybad.prog.cellsOf 9)) = some y3 := (hel 3 _ rfl).trans g3
  have k4 : DataW.trod enc Ybad.prog W base sp held n 3 (([a, b, c, d, e, f].drop 4).take (Ybad.prog.cellsOf 3)) = some y4 := (hel 4 _ rfl).trans g4
  have k5 : DataW.trod enc Ybad.prog W base sp held n 3 (([a, b, c, d, e, f].drop 5).take (Ybad.prog.cellsOf 3)) = some y5 := (hel 5 _ rfl).trans g5
  rw [cells3] at k0 k1 k4 k5
  rw [cells9] at k2 k3
  obtain ⟨x0, e0, _⟩ := DataW.trod_int Ybad.underlying3 k0
  obtain ⟨x1, e1, _⟩ := DataW.trod_int Ybad.underlying3 k1
  obtain ⟨x2, e2, _⟩ := DataW.trod_string Ybad.underlying9 k2
  obtain ⟨x3, e3, _⟩ := DataW.trod_string Ybad.underlying9 k3
  obtain ⟨x4, e4, _⟩ := DataW.trod_int Ybad.underlying3 k4
  obtain ⟨x5, e5, _⟩ := DataW.trod_int Ybad.underlying3 k5
  refine ⟨(x0, x1, x2, x3, x4, x5), ?_⟩
  simp at e0 e1 e2 e3 e4 e5
  subst e0 e1 e2 e3 e4 e5
  rfl

/-- the findings that came in, opened -/
theorem open_fs {v : Value} {d : DataW H} {p : List MemPlace} {a0 : Option Addr} {len cap : Nat} (hv : v = .slice a0 len cap) (h : DataW.Trod enc Ybad.prog W 0 (fun _ => true) held 22 v d p) :
    len ≤ maxLen ∧ ((a0 = none ∧ len = 0 ∧ cap = 0) ∨ ∃ (a : Addr) (xs : List Fd), a0 = some a ∧ xs.length = len ∧ FsAt W (some a) xs) := by
  obtain ⟨fuel, hf⟩ := h
  rw [hv] at hf
  rcases open_slice Ybad.underlying22 hf with ⟨hcs, _⟩ | ⟨a, len', cap', m, n, D, Pl, hcs, _, hl, hm, hmm, _, hx⟩
  · simp [Value.cells] at hcs
    obtain ⟨rfl, rfl, rfl⟩ := hcs
    exact ⟨Nat.zero_le _, Or.inl ⟨rfl, rfl, rfl⟩⟩
  · simp [Value.cells] at hcs
    obtain ⟨rfl, rfl, rfl⟩ := hcs
    refine ⟨Nat.le_trans hl hm, Or.inr ?_⟩
    simp only [if_true] at hmm
    subst hmm
    rw [cells28] at hx
    have each : ∀ i, i < len → ∃ f : Fd, W.cells? 0 (a.add (i * 6)) 6 = some (Fd.enc f) := by
      intro i hi
      obtain ⟨cs', h1, h2⟩ := hx i (by omega)
      obtain ⟨f, rfl⟩ := open_fd h2
      exact ⟨f, h1⟩
    obtain ⟨F, hF⟩ := choose_lt each
    refine ⟨a, (List.range len).map F, rfl, by simp, ?_⟩
    intro j hj
    simp only [List.length_map, List.length_range] at hj
    have h0 := hF 0 (by omega)
    obtain ⟨_, hl0, hc0⟩ := World.cells?_some h0
    have hsp : a.spot = none := by
      have hh := hc0 0 (by omega)
      simp only [Nat.zero_mul] at hh
      have e0 : (a.add 0).add 0 = a := by simp [Addr.add]
      rw [e0] at hh
      cases hs : a.spot with
      | none => rfl
      | some s =>
        exfalso
        unfold World.cell? at hh
        rw [hs] at hh
        split at hh <;> simp [Fd.enc, fnd] at hh
    obtain ⟨b, off, spot⟩ := a
    simp only at hsp
    subst hsp
    have hj' := hF j hj
    have hblk := World.cells?_block hj' (by omega)
    obtain ⟨_, hlj, hcj⟩ := World.cells?_some hj'
    refine ⟨b, off, rfl, by simpa [Addr.add_lit] using hblk, ?_⟩
    intro i v hv
    have e : ((List.range len).map F)[j]! = F j := by
      rw [List.getElem!_eq_getElem?_getD, List.getElem?_map, List.getElem?_range hj]; rfl
    rw [e] at hv
    have hi := enc_q hv
    have := hcj i hi
    rw [Addr.add_lit, Addr.add_lit] at this
    rw [this]; exact hv
end
end Go.Proofs.YbulkdtvyDoor.M
