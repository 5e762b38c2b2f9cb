import Derived.Test.YbulkdtuwCL2
import Derived.WalkKit
import Derived.ProofKit
import Derived.OpenShut
import Derived.ShutString
import Derived.ChangeOld
import Derived.Stop.Joined
import Derived.Deep.Slices
namespace Go.Proofs.YbulkdtuwC
open Go.ChangeShapes Go.WideShapes Go.ChangeAt Go.RowKit Go.Deep

theorem list6 {l : List Value} (h : l.length = 6) : ∃ a b c d e f, l = [a, b, c, d, e, f] := by
  match l, h with
  | [a, b, c, d, e, f], _ => exact ⟨a, b, c, d, e, f, rfl⟩
theorem list5 {l : List Value} (h : l.length = 5) : ∃ a b c d e, l = [a, b, c, d, e] := by
  match l, h with
  | [a, b, c, d, e], _ => exact ⟨a, b, c, d, e, rfl⟩
theorem cells81 : Yba.prog.cellsOf 81 = 6 := by kernel_rfl
theorem cells91 : Yba.prog.cellsOf 91 = 5 := by kernel_rfl
theorem cells5 : Yba.prog.cellsOf 5 = 1 := by kernel_rfl
theorem cells4 : Yba.prog.cellsOf 4 = 1 := by kernel_rfl
theorem cells9 : Yba.prog.cellsOf 9 = 1 := by kernel_rfl
theorem cells22 : Yba.prog.cellsOf 22 = 1 := by kernel_rfl

section
variable {H : Type} {enc : TypeId × Value → H} {W : World} {base : Nat} {sp : Nat → Bool} {held : Bool}

theorem u8of {x : Int} (h : (Lit.int .u8 x).wf = true) : ∃ n : Nat, x = n ∧ n < 256 := by
  have hb := bounds_u8 h
  obtain ⟨n, rfl⟩ := Int.eq_ofNat_of_zero_le hb.1
  exact ⟨n, rfl, by have := hb.2; omega⟩
theorem u64of {x : Int} (h : (Lit.int .u64 x).wf = true) : ∃ n : Nat, x = n ∧ n < 18446744073709551616 := by
  have hb := bounds_u64 h
  obtain ⟨n, rfl⟩ := Int.eq_ofNat_of_zero_le hb.1
  exact ⟨n, rfl, by have := hb.2; omega⟩

theorem open_g6 {fuel : Nat} {cs : List Value} {x : DataW H × List MemPlace} (h : DataW.trod enc Yba.prog W base sp held fuel 81 cs = some x) : ∃ e : Gt, GtOk e ∧ cs = [.int .u8 (e.d : Nat), .bool e.g, .string e.t, .string e.k, .int .u64 (e.tx : Nat), .int .u8 (e.m : Nat)] := by
  obtain ⟨xs, n, _, _, hlen, hxl, hel⟩ := DataW.trod_struct Yba.underlying81 h
  rw [cells81] at hlen
  obtain ⟨a, b, c, d, e, f, rfl⟩ := list6 hlen
  have h6 : xs.length = 6 := hxl
  have get : ∀ i, i < 6 → ∃ y, xs[i]? = some y := fun i hi => ⟨xs[i]'(by omega), List.getElem?_eq_getElem (by omega)⟩
  obtain ⟨y0, g0⟩ := get 0 (by omega)
  obtain ⟨y1, g1⟩ := get 1 (by omega)
  obtain ⟨y2, g2⟩ := get 2 (by omega)
  obtain ⟨y3, g3⟩ := get 3 (by omega)
  obtain ⟨y4, g4⟩ := get 4 (by omega)
  obtain ⟨y5, g5⟩ := get 5 (by omega)
  have k0 : DataW.trod enc Yba.prog W base sp held n 5 (([a, b, c, d, e, f].drop 0).take (Yba.prog.cellsOf 5)) = some y0 := (hel 0 _ rfl).trans g0
  have k1 : DataW.trod enc Yba.prog W base sp held n 4 (([a, b, c, d, e, f].drop 1).take (Yba.prog.cellsOf 4)) = some y1 := (hel 1 _ rfl).trans g1
  have k2 : DataW.trod enc Yba.prog W base sp held n 9 (([a, b, c, d, e, f].drop 2).take (Yba.prog.cellsOf 9)) = some y2 := (hel 2 _ rfl).trans g2
  have k3 : DataW.trod enc Yba.prog W base sp held n 9 (([a, b, c, d, e, f].drop 3).take (Yba.prog.cellsOf 9)) = some y3 := (hel 3 _ rfl).trans g3
  have k4 : DataW.trod enc Yba.prog W base sp held n 22 (([a, b, c, d, e, f].drop 4).take (Yba.prog.cellsOf 22)) = some y4 := (hel 4 _ rfl).trans g4
  have k5 : DataW.trod enc Yba.prog W base sp held n 5 (([a, b, c, d, e, f].drop 5).take (Yba.prog.cellsOf 5)) = some y5 := (hel 5 _ rfl).trans g5
  rw [cells5] at k0 k5
  rw [cells4] at k1
  rw [cells9] at k2 k3
  rw [cells22] at k4
  obtain ⟨x0, e0, _, z0⟩ := DataW.trod_int Yba.underlying5 k0
  obtain ⟨x1, e1, _⟩ := DataW.trod_bool Yba.underlying4 k1
  obtain ⟨x2, e2, _, z2⟩ := DataW.trod_string Yba.underlying9 k2
  obtain ⟨x3, e3, _, z3⟩ := DataW.trod_string Yba.underlying9 k3
  obtain ⟨x4, e4, _, z4⟩ := DataW.trod_int Yba.underlying22 k4
  obtain ⟨x5, e5, _, z5⟩ := DataW.trod_int Yba.underlying5 k5
  obtain ⟨n0, rfl, l0⟩ := u8of z0
  obtain ⟨n4, rfl, l4⟩ := u64of z4
  obtain ⟨n5, rfl, l5⟩ := u8of z5
  refine ⟨⟨n0, x1, x2, x3, n4, n5⟩, ⟨l0, l5, l4, z2, z3⟩, ?_⟩
  simp at e0 e1 e2 e3 e4 e5
  subst e0 e1 e2 e3 e4 e5
  rfl
theorem open_i5 {fuel : Nat} {cs : List Value} {x : DataW H × List MemPlace} (h : DataW.trod enc Yba.prog W base sp held fuel 91 cs = some x) : ∃ e : Gt, GtOk e ∧ cs = [.int .u8 (e.d : Nat), .bool e.g, .string e.t, .string e.k, .int .u8 (e.m : Nat)] := by
  obtain ⟨xs, n, _, _, hlen, hxl, hel⟩ := DataW.trod_struct Yba.underlying91 h
  rw [cells91] at hlen
  obtain ⟨a, b, c, d, e, rfl⟩ := list5 hlen
  have h6 : xs.length = 5 := hxl
  have get : ∀ i, i < 5 → ∃ y, xs[i]? = some y := fun i hi => ⟨xs[i]'(by omega), List.getElem?_eq_getElem (by omega)⟩
  obtain ⟨y0, g0⟩ := get 0 (by omega)
  obtain ⟨y1, g1⟩ := get 1 (by omega)
  obtain ⟨y2, g2⟩ := get 2 (by omega)
  obtain ⟨y3, g3⟩ := get 3 (by omega)
  obtain ⟨y4, g4⟩ := get 4 (by omega)
  have k0 : DataW.trod enc Yba.prog W base sp held n 5 (([a, b, c, d, e].drop 0).take (Yba.prog.cellsOf 5)) = some y0 := (hel 0 _ rfl).trans g0
  have k1 : DataW.trod enc Yba.prog W base sp held n 4 (([a, b, c, d, e].drop 1).take (Yba.prog.cellsOf 4)) = some y1 := (hel 1 _ rfl).trans g1
  have k2 : DataW.trod enc Yba.prog W base sp held n 9 (([a, b, c, d, e].drop 2).take (Yba.prog.cellsOf 9)) = some y2 := (hel 2 _ rfl).trans g2
  have k3 : DataW.trod enc Yba.prog W base sp held n 9 (([a, b, c, d, e].drop 3).take (Yba.prog.cellsOf 9)) = some y3 := (hel 3 _ rfl).trans g3
  have k4 : DataW.trod enc Yba.prog W base sp held n 5 (([a, b, c, d, e].drop 4).take (Yba.prog.cellsOf 5)) = some y4 := (hel 4 _ rfl).trans g4
  rw [cells5] at k0 k4
  rw [cells4] at k1
  rw [cells9] at k2 k3
  obtain ⟨x0, e0, _, z0⟩ := DataW.trod_int Yba.underlying5 k0
  obtain ⟨x1, e1, _⟩ := DataW.trod_bool Yba.underlying4 k1
  obtain ⟨x2, e2, _, z2⟩ := DataW.trod_string Yba.underlying9 k2
  obtain ⟨x3, e3, _, z3⟩ := DataW.trod_string Yba.underlying9 k3
  obtain ⟨x4, e4, _, z4⟩ := DataW.trod_int Yba.underlying5 k4
  obtain ⟨n0, rfl, l0⟩ := u8of z0
  obtain ⟨n4, rfl, l4⟩ := u8of z4
  refine ⟨⟨n0, x1, x2, x3, 0, n4⟩, ⟨l0, l4, (by show (0:Nat) < 18446744073709551616; omega), z2, z3⟩, ?_⟩
  simp at e0 e1 e2 e3 e4
  subst e0 e1 e2 e3 e4
  rfl

theorem spot_none {a : Addr} {k : Nat} (hk : 0 < k) {cs : List Value} (h : W.cells? 0 (a.add 0) k = some cs) : a.spot = none := by
  obtain ⟨_, hl, hc⟩ := World.cells?_some h
  have hh := hc 0 hk
  have e0 : (a.add 0).add 0 = a := by simp [Addr.add]
  rw [e0] at hh
  cases hs : a.spot with
  | none => rfl
  | some s =>
    exfalso
    unfold World.cell? at hh
    rw [hs] at hh
    have : cs ≠ [] := by intro e; rw [e] at hl; simp at hl; omega
    split at hh <;> simp at hh <;> first | exact this hh | exact this hh.symm

theorem open_gs {v : Value} {d : DataW H} {p : List MemPlace} {a0 : Option Addr} {len cap : Nat} (hv : v = .slice a0 len cap) (h : DataW.Trod enc Yba.prog W 0 (fun _ => true) held 37 v d p) :
    len ≤ maxLen ∧ ∃ G : List Gt, G.length = len ∧ GIn W a0 G := by
  obtain ⟨fuel, hf⟩ := h
  rw [hv] at hf
  rcases open_slice Yba.underlying37 hf with ⟨hcs, _⟩ | ⟨a, len', cap', m, n, D, Pl, hcs, _, hl, hm, hmm, _, hx⟩
  · simp [Value.cells] at hcs
    obtain ⟨rfl, rfl, rfl⟩ := hcs
    exact ⟨Nat.zero_le _, [], rfl, ⟨fun e he => (by simp at he), fun h => absurd rfl h⟩⟩
  · simp [Value.cells] at hcs
    obtain ⟨rfl, rfl, rfl⟩ := hcs
    refine ⟨Nat.le_trans hl hm, ?_⟩
    simp only [if_true] at hmm
    subst hmm
    rw [cells81] at hx
    have each : ∀ i, i < len → ∃ e : Gt, GtOk e ∧ W.cells? 0 (a.add (i * 6)) 6 = some [.int .u8 (e.d : Nat), .bool e.g, .string e.t, .string e.k, .int .u64 (e.tx : Nat), .int .u8 (e.m : Nat)] := by
      intro i hi
      obtain ⟨cs', h1, h2⟩ := hx i (by omega)
      obtain ⟨e, h3, rfl⟩ := open_g6 h2
      exact ⟨e, h3, h1⟩
    obtain ⟨F, hF⟩ := choose_lt each
    refine ⟨(List.range len).map F, by simp, ⟨fun e he => ?_, fun hn => ?_⟩⟩
    · obtain ⟨i, hi, rfl⟩ := List.mem_map.1 he
      exact (hF i (by simpa using hi)).1
    · have hpos : 0 < len := by
        rcases Nat.eq_zero_or_pos len with h0 | h0
        · subst h0; exact absurd rfl hn
        · exact h0
      have hsp := spot_none (k := 6) (by omega) (by have := (hF 0 hpos).2; simpa using this)
      obtain ⟨b, off, spot⟩ := a
      simp only at hsp
      subst hsp
      refine ⟨b, off, rfl, fun i hi => ?_⟩
      have hi' : i < len := by simpa using hi
      obtain ⟨_, hlj, hcj⟩ := World.cells?_some (hF i hi').2
      have e : ((List.range len).map F)[i] = F i := by simp
      rw [e]
      have q : ∀ j (hj : j < 6), W.cell? ⟨b, off + i * 6 + j, none⟩ = [Value.int .u8 ((F i).d : Nat), .bool (F i).g, .string (F i).t, .string (F i).k, .int .u64 ((F i).tx : Nat), .int .u8 ((F i).m : Nat)][j]? := by
        intro j hj
        have := hcj j hj
        rw [Addr.add_lit, Addr.add_lit] at this
        exact this
      exact ⟨q 0 (by omega), q 1 (by omega), q 2 (by omega), q 3 (by omega), q 4 (by omega), q 5 (by omega)⟩
theorem open_is {v : Value} {d : DataW H} {p : List MemPlace} {a0 : Option Addr} {len cap : Nat} (hv : v = .slice a0 len cap) (h : DataW.Trod enc Yba.prog W 0 (fun _ => true) held 36 v d p) :
    len ≤ maxLen ∧ ∃ I : List Gt, I.length = len ∧ IIn W a0 I := by
  obtain ⟨fuel, hf⟩ := h
  rw [hv] at hf
  rcases open_slice Yba.underlying36 hf with ⟨hcs, _⟩ | ⟨a, len', cap', m, n, D, Pl, hcs, _, hl, hm, hmm, _, hx⟩
  · simp [Value.cells] at hcs
    obtain ⟨rfl, rfl, rfl⟩ := hcs
    exact ⟨Nat.zero_le _, [], rfl, ⟨fun e he => (by simp at he), fun h => absurd rfl h⟩⟩
  · simp [Value.cells] at hcs
    obtain ⟨rfl, rfl, rfl⟩ := hcs
    refine ⟨Nat.le_trans hl hm, ?_⟩
    simp only [if_true] at hmm
    subst hmm
    rw [cells91] at hx
    have each : ∀ i, i < len → ∃ e : Gt, GtOk e ∧ W.cells? 0 (a.add (i * 5)) 5 = some [.int .u8 (e.d : Nat), .bool e.g, .string e.t, .string e.k, .int .u8 (e.m : Nat)] := by
      intro i hi
      obtain ⟨cs', h1, h2⟩ := hx i (by omega)
      obtain ⟨e, h3, rfl⟩ := open_i5 h2
      exact ⟨e, h3, h1⟩
    obtain ⟨F, hF⟩ := choose_lt each
    refine ⟨(List.range len).map F, by simp, ⟨fun e he => ?_, fun hn => ?_⟩⟩
    · obtain ⟨i, hi, rfl⟩ := List.mem_map.1 he
      exact (hF i (by simpa using hi)).1
    · have hpos : 0 < len := by
        rcases Nat.eq_zero_or_pos len with h0 | h0
        · subst h0; exact absurd rfl hn
        · exact h0
      have hsp := spot_none (k := 5) (by omega) (by have := (hF 0 hpos).2; simpa using this)
      obtain ⟨b, off, spot⟩ := a
      simp only at hsp
      subst hsp
      refine ⟨b, off, rfl, fun i hi => ?_⟩
      have hi' : i < len := by simpa using hi
      obtain ⟨_, hlj, hcj⟩ := World.cells?_some (hF i hi').2
      have e : ((List.range len).map F)[i] = F i := by simp
      rw [e]
      have q : ∀ j (hj : j < 5), W.cell? ⟨b, off + i * 5 + j, none⟩ = [Value.int .u8 ((F i).d : Nat), .bool (F i).g, .string (F i).t, .string (F i).k, .int .u8 ((F i).m : Nat)][j]? := by
        intro j hj
        have := hcj j hj
        rw [Addr.add_lit, Addr.add_lit] at this
        exact this
      exact ⟨q 0 (by omega), q 1 (by omega), q 2 (by omega), q 3 (by omega), q 4 (by omega)⟩
end
end Go.Proofs.YbulkdtuwC
