import Derived.Test.YbulkdtxaAW1
import Derived.OwnWalk
import Derived.Laws.IdiomStrings
namespace Go.Proofs.YbulkdtxaA
open Go.RowKit

/-- one byte in lower case -/
def lw (c : UInt8) : UInt8 := if 65 ≤ c.toNat ∧ c.toNat ≤ 90 then c + 32 else c
def lwS (l : List UInt8) : List UInt8 := l.map lw
theorem lw_up {c : UInt8} (h : 65 ≤ c.toNat ∧ c.toNat ≤ 90) : ((lw c).toNat : Int) = (c.toNat : Int) + 32 := by
  unfold lw
  rw [if_pos h, UInt8.toNat_add]
  have : (32 : UInt8).toNat = 32 := rfl
  omega
theorem lw_no {c : UInt8} (h : ¬ (65 ≤ c.toNat ∧ c.toNat ≤ 90)) : lw c = c := by unfold lw; rw [if_neg h]

theorem inf5 : ∃ i, Yba.prog.info? 5 = some i ∧ i.zero = some (.int .u8 0) ∧ i.size = 1 ∧ i.bytes = 1 := ⟨Yba.t5, by kernel_rfl, by kernel_rfl, by kernel_rfl, by kernel_rfl⟩
theorem own_blk {w : World} {b e : Nat} {g n c : Nat} {xs : List Value} (h : w.ownsRow b e 1 (.slice (some ⟨g, 0, none⟩) n c) n xs) : ∃ cur, Blk w g cur e ∧ cur.size = c ∧ cur.toList.take n = xs := by
  rcases h.2 with ⟨h, _⟩ | ⟨g', cap, cur, hv, hb, hg, hnc, hcm, hcs, ht⟩
  · cases h
  · injection hv with h1 h2 h3
    injection h1 with h1
    injection h1 with h1
    subst h1 h3
    exact ⟨cur, hg, by omega, by simpa using ht⟩
theorem ext_make {w w' : World} (h : w.grownBy w' none) : Ext (fun _ => False) w w' := (Ext.grown h).mono (fun _ _ e => by cases e)

/-- the first n bytes stand in lower case in block g -/
def Low (l : List UInt8) (g n : Nat) (w wr : World) : Prop :=
  ∃ arr, Blk wr g arr 5 ∧ arr.size = l.length ∧ (∀ j (hj : j < l.length), j < n → arr[j]? = some (.int .u8 ((lw l[j]).toNat : Int))) ∧ Ext (fun k => k = g) w wr

theorem Low.step {l : List UInt8} {g n : Nat} {w wr : World} (h : Low l g n w wr) (hn : n < l.length) {x : Int} (hx : ((lw l[n]).toNat : Int) = x) : Low l g (n + 1) w (wr.setCell ⟨g, n, none⟩ (.int .u8 x)) := by
  obtain ⟨arr, hb, hc, hcl, hex⟩ := h
  refine ⟨_, hb.same n _, by simpa using hc, fun j hj hjn => ?_, (hex.trans (Ext.set _ _ _)).mono (fun k _ e => by rcases e with e | e <;> exact e)⟩
  rw [Array.getElem?_setIfInBounds]
  by_cases hjn' : n = j
  · subst hjn'
    rw [if_pos rfl, if_pos (by omega), hx]
  · rw [if_neg hjn']
    exact hcl j hj (by omega)
theorem Low.conv {l : List UInt8} {g : Nat} {w wr : World} (h : Low l g l.length w wr) : (convert 40 9 (.slice (some ⟨g, 0, none⟩) l.length l.length)).run Yba.prog wr = .ok (.string (str (lwS l))) wr := by
  obtain ⟨arr, hb, hc, hcl, hex⟩ := h
  have := run_convert_bytes_back (P := Yba.prog) wr 40 9 5 ⟨g, 0, none⟩ l.length (lwS l) Yba.underlying40 Yba.underlying5 Yba.underlying9 (by
    intro j hj
    have hj' : j < l.length := by simpa [lwS] using hj
    have hadd : (⟨g, 0, none⟩ : Addr).add j = ⟨g, j, none⟩ := by unfold Addr.add; split <;> simp_all
    rw [hadd, hb.cell, hcl j hj' hj']
    simp [lwS])
  rw [show (lwS l).length = l.length by simp [lwS]] at this
  exact this

set_option maxHeartbeats 1000000 in
theorem zlower_any (l : List UInt8) (w : World) (hs : l.length ≤ 2097152) :
    Calls Yba.prog 6 #[.string (str l)] w fun e w' => e = .returned (.string (str (lwS l))) ∧ Ext (fun _ => False) w w' := by
  obtain ⟨i5, hi5, hz5, hs5, hb5⟩ := inf5
  have hsz := str_size l
  obtain ⟨s, hS⟩ : ∃ s, s = str l := ⟨_, rfl⟩
  rw [← hS] at hsz ⊢
  have HS := hide hS
  clear hS
  go_enter Yba.func6, Yba.ntmps6
  go_wp2_with (at_make; refine wpList_make_full _ rfl _ _ 40 rfl w.heap.size 5 i5 _ 1 Yba.underlying40 hi5 hz5 hs5 _ _ _ _ l.length rfl rfl (by omega) (by omega) (by rw [hb5]; omega) (by unfold maxLen; omega) (Nat.le_refl _) ?_; intro w1 hown1 hgrow1; obtain ⟨cur, hb1, hc1, _⟩ := own_blk hown1; have HB1 := hide hb1; have HC1 := hide hc1; have HE1 := hide (ext_make hgrow1); clear hown1 hgrow1 hb1 hc1)
  go_loopg [4] l.length (fun f j wr => ∃ n : Nat, n ≤ l.length ∧ l.length - n ≤ f ∧ j = .int .i64 n ∧ Hid (Low l w.heap.size n w1 wr))
  case atStart => exact ⟨0, by omega, by omega, rfl, ⟨cur, HB1.out, HC1.out, fun j _ h => absurd h (by omega), ⟨rfl, rfl, rfl, Nat.le_refl _, fun _ _ _ => rfl⟩⟩⟩
  case round =>
    obtain ⟨n, hn, hg, rfl, hL⟩ := hrel
    by_cases hlt : n < l.length
    · have hi : s[n]'(by omega) = l[n] := by
        have := str_at l n (by rw [str_size]; exact hlt)
        simp only [HS.out, this]
      obtain ⟨arr, hb, hc, hcl, hex⟩ := hL.out
      obtain ⟨c, hcc⟩ : ∃ c, l[n] = c := ⟨_, rfl⟩
      rw [hcc] at hi
      have HC := hide hcc
      obtain ⟨x0, hx0⟩ : ∃ x, arr[n]? = some x := ⟨_, Array.getElem?_eq_getElem (by omega)⟩
      have c0 : wr.cell? ⟨w.heap.size, n, none⟩ = some x0 := (hb.cell n).trans hx0
      have f0 := hb.frozen n
      have HB := hide hb
      have HA := hide hc
      have HCL := hide hcl
      have HEX := hide hex
      have hcb := c.toNat_lt
      clear hcc hb hc hcl hex hx0
      by_cases hup : 65 ≤ c.toNat ∧ c.toNat ≤ 90
      · obtain ⟨h65, h90⟩ := hup
        have i65 : (65 : Int) ≤ (c.toNat : Int) := by omega
        have i90 : (c.toNat : Int) ≤ 90 := by omega
        have HUP : Hid (65 ≤ c.toNat ∧ c.toNat ≤ 90) := ⟨h65, h90⟩
        go_wp2
        go_roundg (l.length - (n + 1))
        case measure => omega
        case rel => exact ⟨n + 1, by omega, by omega, by go_num, hL.out.step hlt (by rw [HC.out]; exact lw_up HUP.out)⟩
      · have HUP := hide hup
        go_wp2
        all_goals
          go_roundg (l.length - (n + 1))
          case measure => omega
          case rel => exact ⟨n + 1, by omega, by omega, by go_num, hL.out.step hlt (by rw [HC.out, lw_no HUP.out])⟩
    · obtain rfl : n = l.length := by omega
      have hconv := hL.out.conv
      obtain ⟨_, _, _, _, hex⟩ := hL.out
      have HEX := hide hex
      clear hex
      go_wp2
      go_ret
      exact ⟨rfl, (HE1.out.trans HEX.out).mono (fun k hk e => by rcases e with e | e; exact e; omega)⟩
end Go.Proofs.YbulkdtxaA
