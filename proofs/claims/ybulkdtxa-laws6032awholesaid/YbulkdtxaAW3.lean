import Derived.Test.YbulkdtxaAW2
import Derived.Lib.SliceRun
namespace Go.Proofs.YbulkdtxaA
open Go.RowKit

/-- block g holds the bytes, the first n of them in lower case, and may be written -/
def LowF (l : List UInt8) (g n : Nat) (w wr : World) : Prop :=
  ∃ arr fr, wr.heap[g]? = some (.cells arr 5 fr) ∧ l.length ≤ fr.1 ∧ (∀ j (hj : j < l.length), arr[j]? = some (.int .u8 ((if j < n then lw l[j] else l[j]).toNat : Int))) ∧ w.heap.size ≤ g ∧ Ext (fun _ => False) w wr

theorem LowF.facts {l : List UInt8} {g n : Nat} {w wr : World} (h : LowF l g n w wr) {i : Nat} (hi : i < l.length) : wr.frozen? ⟨g, i, none⟩ = false ∧ ∃ x, wr.cell? ⟨g, i, none⟩ = some x := by
  obtain ⟨arr, fr, h1, h2, h3, _⟩ := h
  refine ⟨?_, _, (show wr.cell? ⟨g, i, none⟩ = some (.int .u8 ((if i < n then lw l[i] else l[i]).toNat : Int)) from ?_)⟩
  · unfold World.frozen?
    simp only [h1]
    have : ¬ fr.1 ≤ i := by omega
    simp [this]
  · simp only [World.cell?, h1]
    exact h3 i hi
theorem LowF.step {l : List UInt8} {g n : Nat} {w wr : World} (h : LowF l g n w wr) (hn : n < l.length) {x : Int} (hx : ((lw l[n]).toNat : Int) = x) : LowF l g (n + 1) w (wr.setCell ⟨g, n, none⟩ (.int .u8 x)) := by
  obtain ⟨arr, fr, h1, h2, h3, h4, h5⟩ := h
  refine ⟨arr.setIfInBounds n (.int .u8 x), fr, ?_, h2, fun j hj => ?_, h4, (h5.trans (Ext.set _ _ _)).mono (fun k hk e => by rcases e with e | e; exact e; simp only at e; omega)⟩
  · simp only [World.setCell, Array.getElem?_modify, ↓reduceIte, h1, Option.map_some]
    rfl
  · rw [Array.getElem?_setIfInBounds]
    by_cases hjn : n = j
    · subst hjn
      have : n < arr.size := by
        have := h3 n hj
        rcases Nat.lt_or_ge n arr.size with h | h
        · exact h
        · rw [Array.getElem?_eq_none h] at this; cases this
      rw [if_pos rfl, if_pos this, if_pos (by omega), hx]
    · rw [if_neg hjn, h3 j hj]
      congr 3
      by_cases h : j < n
      · rw [if_pos h, if_pos (by omega)]
      · rw [if_neg h, if_neg (by omega)]
theorem LowF.same {l : List UInt8} {g n : Nat} {w wr : World} (h : LowF l g n w wr) (hn : n < l.length) (hx : lw l[n] = l[n]) : LowF l g (n + 1) w wr := by
  obtain ⟨arr, fr, h1, h2, h3, h4⟩ := h
  refine ⟨arr, fr, h1, h2, fun j hj => ?_, h4⟩
  rw [h3 j hj]
  by_cases hjn : j = n
  · subst hjn
    rw [if_neg (by omega), if_pos (by omega), hx]
  · congr 3
    by_cases h : j < n
    · rw [if_pos h, if_pos (by omega)]
    · rw [if_neg h, if_neg (by omega)]
theorem LowF.new {l : List UInt8} {n : Nat} {w wr : World} (hw : wr = w) (hlow : ∀ j (hj : j < l.length), j < n → lw l[j] = l[j]) (cap : Nat) :
    LowF l wr.heap.size n w (wr.drew.alloc (.cells (bytesRow (str l) cap) 5 ((bytesRow (str l) cap).size, (bytesRow (str l) cap).size + 1))) := by
  subst hw
  refine ⟨_, _, heap_alloc_new wr.drew _, ?_, fun j hj => ?_, Nat.le_refl _, ⟨rfl, rfl, rfl, by simp, fun k hk _ => Below.heap_alloc wr.drew _ k hk⟩⟩
  · simp [bytesRow, str]
  · have e : (if j < n then lw l[j] else l[j]) = l[j] := by
      by_cases h : j < n
      · rw [if_pos h, hlow j hj h]
      · rw [if_neg h]
    rw [e]
    unfold bytesRow str
    rw [Array.getElem?_append_left (by simpa using hj)]
    simp [hj]
theorem LowF.conv {l : List UInt8} {g c : Nat} {w wr : World} (h : LowF l g l.length w wr) : (convert 40 9 (.slice (some ⟨g, 0, none⟩) l.length c)).run Yba.prog wr = .ok (.string (str (lwS l))) wr := by
  obtain ⟨arr, fr, h1, h2, h3, h4⟩ := h
  have := run_convert_bytes_back (P := Yba.prog) wr 40 9 5 ⟨g, 0, none⟩ c (lwS l) Yba.underlying40 Yba.underlying5 Yba.underlying9 (by
    intro j hj
    have hj' : j < l.length := by simpa [lwS] using hj
    have hadd : (⟨g, 0, none⟩ : Addr).add j = ⟨g, j, none⟩ := by unfold Addr.add; split <;> simp_all
    rw [hadd]
    simp only [World.cell?, h1]
    rw [h3 j hj', if_pos hj']
    simp [lwS])
  rw [show (lwS l).length = l.length by simp [lwS]] at this
  exact this

/-- Lower's state -/
def LRel (l : List UInt8) (w : World) (n : Nat) (b : Value) (wr : World) : Prop :=
  (b = .slice none 0 0 ∧ wr = w ∧ ∀ j (hj : j < l.length), j < n → lw l[j] = l[j]) ∨ ∃ g c, b = .slice (some ⟨g, 0, none⟩) l.length c ∧ LowF l g n w wr

theorem or32 {c : UInt8} (h : 65 ≤ c.toNat ∧ c.toNat ≤ 90) : bits .or .u8 (c.toNat : Int) 32 = (c.toNat : Int) + 32 := by
  obtain ⟨h1, h2⟩ := h
  have : ∀ n : Fin 91, 65 ≤ n.val → bits .or .u8 (n.val : Int) 32 = (n.val : Int) + 32 := by decide +kernel
  exact this ⟨c.toNat, by omega⟩ h1
theorem bytes_of {l : List UInt8} {s : ByteArray} (hS : s = str l) {n : Nat} {w wr : World} (hw : wr = w) (hlow : ∀ j (hj : j < l.length), j < n → lw l[j] = l[j]) :
    Hid (∃ cap W', (convert 9 40 (.string s)).run Yba.prog wr = .ok (.slice (some ⟨wr.heap.size, 0, none⟩) l.length cap) W' ∧ LowF l wr.heap.size n w W') := by
  subst hS
  have := run_bytes_of_string (P := Yba.prog) wr 9 40 5 (str l) Yba.underlying9 Yba.underlying40 Yba.underlying5
  rw [str_size] at this
  exact ⟨_, _, this, LowF.new hw hlow _⟩

set_option maxHeartbeats 1000000 in
theorem lower_any (l : List UInt8) (w : World) (hs : l.length ≤ 2097152) :
    Calls Yba.prog 14 #[.string (str l)] w fun e w' => e = .returned (.string (str (lwS l))) ∧ Ext (fun _ => False) w w' := by
  have hsz := str_size l
  obtain ⟨s, hS⟩ : ∃ s, s = str l := ⟨_, rfl⟩
  rw [← hS] at hsz ⊢
  have HS := hide hS
  clear hS
  have hq40 := fun w a n c n' c' => Lib.run_eql_slice_nil (P := Yba.prog) w 40 5 a n c n' c' Yba.underlying40
  go_enter Yba.func14, Yba.ntmps14
  go_wp2
  go_loopg [3, 8] l.length (fun f b j wr => ∃ n : Nat, n ≤ l.length ∧ l.length - n ≤ f ∧ j = .int .i64 n ∧ Hid (LRel l w n b wr))
  case atStart => exact ⟨0, by omega, by omega, rfl, .inl ⟨rfl, rfl, fun j _ h => absurd h (by omega)⟩⟩
  case round =>
    obtain ⟨n, hn, hg, rfl, hL⟩ := hrel
    by_cases hlt : n < l.length
    · have hi : s[n]'(by omega) = l[n] := by
        have := str_at l n (by rw [str_size]; exact hlt)
        simp only [HS.out, this]
      obtain ⟨c, hcc⟩ : ∃ c, l[n] = c := ⟨_, rfl⟩
      rw [hcc] at hi
      have HC := hide hcc
      clear hcc
      by_cases hup : 65 ≤ c.toNat ∧ c.toNat ≤ 90
      · obtain ⟨h65, h90⟩ := hup
        have i65 : (65 : Int) ≤ (c.toNat : Int) := by omega
        have i90 : (c.toNat : Int) ≤ 90 := by omega
        have HUP : Hid (65 ≤ c.toNat ∧ c.toNat ≤ 90) := ⟨h65, h90⟩
        have hor := or32 HUP.out
        rcases hL.out with ⟨rfl, rfl, hlow⟩ | ⟨g, cp, rfl, hF⟩
        · obtain ⟨cap, W', hconv, hLF⟩ := (bytes_of (w := wr) (wr := wr) HS.out rfl hlow).out
          obtain ⟨f0, x0, c0⟩ := hLF.facts hlt
          have HLF := hide hLF
          clear hLF hlow
          go_wp2
          go_roundg (l.length - (n + 1))
          case measure => omega
          case rel => exact ⟨n + 1, by omega, by omega, by go_num, .inr ⟨_, _, rfl, HLF.out.step hlt (by rw [HC.out]; exact lw_up HUP.out)⟩⟩
        · obtain ⟨f0, x0, c0⟩ := hF.facts hlt
          have HLF := hide hF
          clear hF
          go_wp2
          go_roundg (l.length - (n + 1))
          case measure => omega
          case rel => exact ⟨n + 1, by omega, by omega, by go_num, .inr ⟨_, _, rfl, HLF.out.step hlt (by rw [HC.out]; exact lw_up HUP.out)⟩⟩
      · have HUP := hide hup
        have hL2 : Hid (LRel l w (n + 1) u3 wr) := by
          rcases hL.out with ⟨h1, h2, hlow⟩ | ⟨g, cp, h1, hF⟩
          · refine .inl ⟨h1, h2, fun j hj hjn => ?_⟩
            rcases Nat.lt_or_eq_of_le (Nat.le_of_lt_succ hjn) with h | h
            · exact hlow j hj h
            · subst h; rw [HC.out, lw_no hup]
          · exact .inr ⟨g, cp, h1, hF.same hlt (by rw [HC.out, lw_no hup])⟩
        go_wp2
        all_goals
          go_roundg (l.length - (n + 1))
          case measure => omega
          case rel => exact ⟨n + 1, by omega, by omega, by go_num, hL2⟩
    · obtain rfl : n = l.length := by omega
      rcases hL.out with ⟨rfl, rfl, hlow⟩ | ⟨g, cp, rfl, hF⟩
      · have hsame : Hid (str (lwS l) = s) := by
          show str (lwS l) = s
          rw [HS.out]
          congr 1
          unfold lwS
          apply List.ext_getElem
          · simp
          · intro i h1 h2
            rw [List.getElem_map]
            exact hlow i h2 h2
        clear hlow
        go_wp2
        go_ret
        exact ⟨by rw [hsame.out]; rfl, ⟨rfl, rfl, rfl, Nat.le_refl _, fun _ _ _ => rfl⟩⟩
      · have hconv := hF.conv (c := cp)
        obtain ⟨_, _, _, _, _, _, hex⟩ := hF
        have HEX := hide hex
        clear hex
        go_wp2
        go_ret
        exact ⟨rfl, HEX.out⟩
end Go.Proofs.YbulkdtxaA
