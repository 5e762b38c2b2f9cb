import Derived.Test.YbulkdtuwBShelf
import Derived.Test.YbulkdtuwBMem
import Derived.LoopTactic
namespace Go.Proofs.YbulkdtuwB
open Go.RowKit Go.Sort Go.Lib

/-- find's closure: the run's last key against the key -/
theorem last_any (g n c : Nat) (x key : ByteArray) (w : World) (hn : 0 < n) (hb : n ≤ 1048576) (hc : w.cell? ⟨g, n - 1, none⟩ = some (.string x)) :
    Calls Yba.prog 40 #[.slice (some ⟨g, 0, none⟩) n c, .string key] w fun e w' => e = .returned (.int .i64 (Lib.compareBytes x.data.toList key.data.toList)) ∧ w' = w := by
  obtain ⟨m, rfl⟩ : ∃ m, n = m + 1 := ⟨n - 1, by omega⟩
  simp only [Nat.add_sub_cancel] at hc
  go_enter Yba.func40, Yba.ntmps40
  go_wp2_with (go_at_call 41; refine (Yba.strings_Compare _ _ _).mono ?_; rintro e w' ⟨rfl, rfl⟩)
  go_ret
  exact ⟨rfl, rfl⟩

/-- the halving over the runs -/
def less (l : Nat → ByteArray) (key : ByteArray) (t : Nat) : Bool := decide (Lib.compareBytes (l t).data.toList key.data.toList < 0)

def isInt (e : Ending) (i : Nat) : Prop := ∃ b, e = .returned (.tuple #[.int .i64 i, .bool b])

set_option maxHeartbeats 2000000 in
theorem bsf_any (o n c : Nat) (g m k : Nat → Nat) (l : Nat → ByteArray) (key : ByteArray) (w : World) (hn : n ≤ 1048576)
    (hm : ∀ t, t < n → 0 < m t ∧ m t ≤ 1048576)
    (hc : ∀ t, t < n → w.cell? ⟨o, t, none⟩ = some (.slice (some ⟨g t, 0, none⟩) (m t) (k t)))
    (hl : ∀ t, t < n → w.cell? ⟨g t, m t - 1, none⟩ = some (.string (l t))) :
    Calls Yba.prog 39 #[.slice (some ⟨o, 0, none⟩) n c, .string key, .func (.func 40) #[] #[]] w fun e w' => isInt e (Lib.bsGo (less l key) n 0 n) ∧ w' = w := by
  obtain ⟨I, hI⟩ : ∃ I, Lib.bsGo (less l key) n 0 n = I := ⟨_, rfl⟩
  rw [hI]
  go_enter Yba.func39, Yba.ntmps39
  go_wp2
  go_loopg [9, 10] n (fun f s7 s8 wr => ∃ lo hi : Nat, s7 = .int .i64 lo ∧ s8 = .int .i64 hi ∧ lo ≤ hi ∧ hi ≤ n ∧ hi - lo ≤ f ∧ wr = w ∧ Lib.bsGo (less l key) f lo hi = I)
  case atStart => exact ⟨0, n, rfl, rfl, Nat.zero_le _, Nat.le_refl _, by omega, rfl, hI⟩
  case round =>
    obtain ⟨lo, hi, rfl, rfl, hlh, hin, hg, rfl, hb⟩ := hrel
    by_cases hlt : lo < hi
    · obtain ⟨md, hmd⟩ : ∃ md, (lo + hi) / 2 = md := ⟨_, rfl⟩
      have hmn : md < n := by omega
      have cm := hc md hmn
      have H := fun w' => last_any (g md) (m md) (k md) (l md) key w' (hm md hmn).1 (hm md hmn).2
      have HL := hl md hmn
      clear hc hl
      obtain ⟨g', rfl⟩ : ∃ g', gk = g' + 1 := ⟨gk - 1, by omega⟩
      simp only [Lib.bsGo, hlt, if_true, hmd] at hb
      have hI2 : ((lo : Int) + (hi : Int)) / 2 = (md : Int) := by omega
      have E : Hid (less l key md = decide (Lib.compareBytes (l md).data.toList key.data.toList < 0)) := rfl
      generalize Lib.compareBytes (l md).data.toList key.data.toList = cv at *
      by_cases hcv : cv < 0
      · have := E.out
        rw [decide_eq_true hcv] at this
        rw [this, if_pos rfl] at hb
        go_wp2_with (go_at_call 40; refine (H _ HL).mono ?_; rintro e w' ⟨rfl, rfl⟩)
        go_roundg (hi - (md + 1))
        case measure => omega
        case rel => exact ⟨md + 1, hi, by go_num, rfl, by omega, hin, Nat.le_refl _, rfl, by rw [← hb]; exact Lib.bsGo_fuel _ _ _ _ _ (Nat.le_refl _) (by omega)⟩
      · have := E.out
        rw [decide_eq_false hcv] at this
        rw [this, if_neg (by decide)] at hb
        go_wp2_with (go_at_call 40; refine (H _ HL).mono ?_; rintro e w' ⟨rfl, rfl⟩)
        go_roundg (md - lo)
        case measure => omega
        case rel => exact ⟨lo, md, rfl, by go_num, by omega, by omega, Nat.le_refl _, rfl, by rw [← hb]; exact Lib.bsGo_fuel _ _ _ _ _ (Nat.le_refl _) (by omega)⟩
    · have : hi = lo := by omega
      subst this
      have hIe : I = hi := by
        rw [← hb]
        cases gk <;> simp [Lib.bsGo]
      subst hIe
      by_cases hn : I < n
      · have cm := hc I hn
        have H := fun w' => last_any (g I) (m I) (k I) (l I) key w' (hm I hn).1 (hm I hn).2
        have HL := hl I hn
        clear hc hl hb hI
        go_wp2_with (go_at_call 40; refine (H _ HL).mono ?_; rintro e w' ⟨rfl, rfl⟩)
        all_goals (go_ret2; exact ⟨⟨_, rfl⟩, rfl⟩)
      · clear hc hl hb hI
        go_wp2
        go_ret2
        exact ⟨⟨_, rfl⟩, rfl⟩

set_option maxHeartbeats 2000000 in
theorem find_any (o n c : Nat) (g m k : Nat → Nat) (l : Nat → ByteArray) (key : ByteArray) (w : World) (hn : n ≤ 1048576)
    (hm : ∀ t, t < n → 0 < m t ∧ m t ≤ 1048576)
    (hc : ∀ t, t < n → w.cell? ⟨o, t, none⟩ = some (.slice (some ⟨g t, 0, none⟩) (m t) (k t)))
    (hl : ∀ t, t < n → w.cell? ⟨g t, m t - 1, none⟩ = some (.string (l t)))
    (I : Nat) (hI : Lib.bsGo (less l key) n 0 n = I) (hIn : I < n) (Sx : Nat → ByteArray) (hs : ∀ j, j < m I → w.cell? ⟨g I, j, none⟩ = some (.string (Sx j)))
    (J : Nat) (hJ : Lib.bsGo (fun t => Op.bytesLess (Sx t).toList key.toList) (m I) 0 (m I) = J) :
    Calls Yba.prog 19 #[.slice (some ⟨o, 0, none⟩) n c, .string key] w fun e w' => e = .returned (.tuple #[.int .i64 I, .int .i64 J]) ∧ ∃ q, w' = w.drewN q := by
  have H := bsf_any o n c g m k l key w hn hm hc hl
  rw [hI] at H
  have H2 := fun w' => Any2.slices_BinarySearch_string Yba.lbs (g I) 0 (m I) (k I) Sx key w' (by have := (hm I hIn).2; omega)
  rw [hJ] at H2
  have cI := hc I hIn
  clear hc hl hm hI hJ
  go_enter Yba.func19, Yba.ntmps19
  go_wp2_with (first | (go_at_call 39; refine H.mono ?_; rintro e w' ⟨⟨b, rfl⟩, rfl⟩) | (go_at_call 42; refine (H2 _ (fun j hj => by rw [Nat.zero_add]; exact hs j hj)).mono ?_; rintro e w' ⟨rfl, q, rfl⟩))
  go_ret2
  exact ⟨rfl, _, rfl⟩
end Go.Proofs.YbulkdtuwB
