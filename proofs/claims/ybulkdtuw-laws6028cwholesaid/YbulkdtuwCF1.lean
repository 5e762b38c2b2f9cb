import Derived.Test.YbulkdtuwCE2
namespace Go.Proofs.YbulkdtuwC
open Go.RowKit Go.Proofs.YbulkdtuwB RawMap

theorem look_skip {L : List (Nat × Nat)} {x : Nat} (n : Nat) (h : ∀ j (hj : j < L.length), j < n → L[j].1 ≠ x) : look L x = look (L.drop n) x := by
  induction n generalizing L with
  | zero => rfl
  | succ n ih =>
    cases L with
    | nil => rfl
    | cons e L =>
      have h0 := h 0 (by simp) (by omega)
      simp at h0
      have : look (e :: L) x = look L x := by
        unfold look
        rw [List.find?_cons_of_neg (by simp; omega)]
      rw [this, List.drop_succ_cons]
      exact ih (fun j hj hjn => by have := h (j + 1) (by simp; omega) (by omega); simpa using this)
theorem look_hit {L : List (Nat × Nat)} {x i : Nat} (hi : i < L.length) (h : ∀ j (hj : j < L.length), j < i → L[j].1 ≠ x) (he : L[i].1 = x) : look L x = some L[i].2 := by
  rw [look_skip i h, List.drop_eq_getElem_cons hi]
  unfold look
  rw [List.find?_cons_of_pos (by simp [he])]
  rfl

section
variable {X : Nat → Array Value → TypeId → Prop} {w0 : World} {mb : Nat} {NB : Nd → Option Nat} {L : Rs → List (Nat × Nat)} {TP : Nat → Option Nat} {cnt : Nat} {wr : World}

theorem Mg.gr (h : Mg X w0 mb NB L TP cnt wr) {r : Rs} {b : Nat} (ha : At mb NB r b) : ∃ arr ty, Blk wr b arr ty ∧ Gr arr (L r) (NB (.more r)) := by
  rcases ha with ⟨rfl, rfl⟩ | ⟨_, hn⟩
  · obtain ⟨arr, hB, _, hg, _⟩ := h.mblk
    exact ⟨arr, _, hB, hg⟩
  · obtain ⟨_, arr, hB, _, hg⟩ := h.ok _ _ hn
    exact ⟨arr, _, hB, hg⟩
theorem Mg.lMore (h : Mg X w0 mb NB L TP cnt wr) {r : Rs} {b : Nat} (ha : At mb NB r b) (x : Nat) (hx : x < 18446744073709551616) :
    (Instr.lookup 43 (.map (NB (.more r))) (.int .u64 (x : Nat)) true).run Yba.prog wr = .ok (.tuple #[.int .u8 ((look ((L r).drop 3) x).getD 0 : Nat), .bool (look ((L r).drop 3) x).isSome]) wr := by
  cases hn : NB (.more r) with
  | none =>
    obtain ⟨arr, ty, hB, _, _, _, _, hle⟩ := h.gr ha
    have hd : (L r).drop 3 = [] := List.drop_of_length_le (hle hn)
    rw [Maps.look_nil true keyed41 Yba.underlying43 (Yba.zeroValue39 _) (key41 x hx), hd]
    rfl
  | some m =>
    rw [Mp.lookOk (h.ok _ _ hn).2 keyed41 Yba.underlying43 (Yba.zeroValue39 _) (key41 x hx)]
    show Result.ok (Value.tuple #[((look ((L r).drop 3) x).map (fun m => Value.int .u8 (m : Nat))).getD _, Value.bool ((look ((L r).drop 3) x).map (fun m => Value.int .u8 (m : Nat))).isSome]) _ = _
    cases look ((L r).drop 3) x <;> rfl

set_option maxRecDepth 100000 in
set_option maxHeartbeats 1000000 in
theorem of_any (h : Mg X w0 mb NB L TP cnt wr) {r : Rs} {b : Nat} (ha : At mb NB r b) (x : Nat) (hx : x < 18446744073709551616) :
    Calls Yba.prog 55 #[.pointer (some ⟨b, 0, none⟩), .int .u64 (x : Nat)] wr fun e w' => e = .returned (.tuple #[.int .u8 ((look (L r) x).getD 0 : Nat), .bool (look (L r) x).isSome]) ∧ w' = wr := by
  have hlm := h.lMore ha x hx
  obtain ⟨arr, ty, hB, hs8, h0, hi3, h7, _⟩ := h.gr ha
  have c0 : wr.cell? ⟨b, 0, none⟩ = some (.int .u8 (min 3 (L r).length : Nat)) := (hB.cell 0).trans h0
  have c7 : wr.cell? ⟨b, 7, none⟩ = some (.map (NB (.more r))) := (hB.cell 7).trans h7
  have HC : Hid (∀ i (hi : i < (L r).length), i < 3 → wr.cell? ⟨b, 1 + i, none⟩ = some (.int .u8 ((L r)[i].2 : Nat)) ∧ wr.cell? ⟨b, 4 + i, none⟩ = some (.int .u64 ((L r)[i].1 : Nat))) := fun i hi hi' => ⟨(hB.cell _).trans (hi3 i hi hi').1, (hB.cell _).trans (hi3 i hi hi').2⟩
  clear h ha hB hs8 h0 hi3 h7
  generalize L r = l at hlm c0 HC ⊢
  generalize NB (.more r) = mo at hlm c7
  obtain ⟨m, hm⟩ : ∃ m, min 3 l.length = m := ⟨_, rfl⟩
  have hm3 : m ≤ 3 := by omega
  have hml : m ≤ l.length := by omega
  have HM : Hid (min 3 l.length = m) := hm
  rw [hm] at c0
  clear hm
  go_enter Yba.func55, Yba.ntmps55
  go_wp2
  go_loopg [13] m (fun f s13 wx => ∃ i : Nat, s13 = .int .u8 (i : Nat) ∧ i ≤ m ∧ m - i ≤ f ∧ wx = wr ∧ Hid (∀ j (hj : j < l.length), j < i → l[j].1 ≠ x))
  case atStart => exact ⟨0, rfl, by omega, by omega, rfl, fun j _ h => absurd h (by omega)⟩
  case round =>
    obtain ⟨i, rfl, hi, hf, hwr, hno⟩ := hrel
    replace hwr := hwr.symm
    subst hwr
    by_cases hlt : i < m
    · have hil : i < l.length := by omega
      have c1 := (HC.out i hil (by omega)).1
      have c4 := (HC.out i hil (by omega)).2
      obtain ⟨e1, he1⟩ : ∃ e1, l[i].1 = e1 := ⟨_, rfl⟩
      obtain ⟨e2, he2⟩ : ∃ e2, l[i].2 = e2 := ⟨_, rfl⟩
      rw [he2] at c1
      rw [he1] at c4
      by_cases hex : e1 = x
      · have HLK : Hid (look l x = some e2) := by show _ = _; rw [look_hit hil hno.out (he1.trans hex), he2]
        clear he1 he2
        subst hex
        go_wp2_with fail
        go_ret2
        refine ⟨?_, rfl⟩
        rw [HLK.out]; rfl
      · have HNE : Hid (l[i].1 ≠ x) := by show _ ≠ _; rw [he1]; exact hex
        have hne : ¬ ((e1 : Nat) : Int) = ((x : Nat) : Int) := by omega
        clear he1 he2 hex
        go_wp2_with fail
        go_roundg (m - (i + 1))
        case measure => omega
        case rel =>
          refine ⟨i + 1, by go_num, by omega, by omega, rfl, fun j hj hji => ?_⟩
          rcases Nat.lt_or_eq_of_le (Nat.le_of_lt_succ hji) with h | h
          · exact hno.out j hj h
          · subst h; exact HNE.out
    · have HLK : Hid (look l x = look (l.drop 3) x) := by
        refine look_skip 3 (fun j hj hj3 => hno.out j hj ?_)
        have := HM.out
        omega
      obtain rfl : i = m := by omega
      generalize look (l.drop 3) x = lo at hlm HLK
      go_wp2_with fail
      go_ret2
      refine ⟨?_, rfl⟩
      rw [HLK.out]; rfl
theorem mode_any (h : Mg X w0 mb NB L TP cnt wr) {r : Rs} {b : Nat} (ha : At mb NB r b) (x : Nat) (hx : x < 18446744073709551616) :
    Calls Yba.prog 46 #[.pointer (some ⟨b, 0, none⟩), .int .u64 (x : Nat)] wr fun e w' => e = .returned (.int .u8 ((look (L r) x).getD 0 : Nat)) ∧ w' = wr := by
  have ho := of_any h ha x hx
  clear h ha
  go_enter Yba.func46, Yba.ntmps46
  go_wp2_with (go_at_call 55; refine ho.mono ?_; rintro e w1 ⟨rfl, rfl⟩)
  go_ret
  exact ⟨rfl, rfl⟩

/-- the lookups, the map nil or not -/
theorem Mg.oTabs (h : Mg X w0 mb NB L TP cnt wr) (t : ByteArray) (ht : t.size ≤ maxLen) : (Instr.lookup 58 (.map (NB .tabs)) (.string t) false).run Yba.prog wr = .ok ((ptr (NB (.ent (.tab t)))).getD (.pointer none)) wr := by
  cases hn : NB .tabs with
  | none => rw [Maps.look_nil false keyed9 Yba.underlying58 (Yba.zeroValue66 _) (key9 t ht), h.shut _ _ (.tab t) hn]; rfl
  | some b => exact h.lTabs hn t ht
theorem Mg.oPart (h : Mg X w0 mb NB L TP cnt wr) (p : Nat) (t : ByteArray) (ht : t.size ≤ maxLen) : (Instr.lookup 59 (.map (NB (.part p))) (.string t) false).run Yba.prog wr = .ok ((ptr (NB (.tk p t))).getD (.pointer none)) wr := by
  cases hn : NB (.part p) with
  | none => rw [Maps.look_nil false keyed9 Yba.underlying59 (Yba.zeroValue50 _) (key9 t ht), h.shut _ _ (.tk p t) hn]; rfl
  | some b => exact h.lPart hn t ht
theorem Mg.oKeys (h : Mg X w0 mb NB L TP cnt wr) (g : Bool) (t k : ByteArray) (hk : k.size ≤ maxLen) : (Instr.lookup 58 (.map (NB (.keys (pn t k) t g))) (.string k) false).run Yba.prog wr = .ok ((ptr (NB (.ent (.key g t k)))).getD (.pointer none)) wr := by
  cases hn : NB (.keys (pn t k) t g) with
  | none => rw [Maps.look_nil false keyed9 Yba.underlying58 (Yba.zeroValue66 _) (key9 k hk), h.shut _ _ (.key t k g) hn]; rfl
  | some b => exact h.lKeys hn hk

/-- what find answers -/
def found (mb : Nat) (NB : Nd → Option Nat) : Rs → Value
  | .store => .pointer (some ⟨mb, 0, none⟩)
  | r => (ptr (NB (.ent r))).getD (.pointer none)
theorem findS_any (mb : Nat) (NB : Nd → Option Nat) (wr : World) : Calls Yba.prog 45 #[.pointer (some ⟨mb, 0, none⟩), .agg (resC .store)] wr fun e w' => e = .returned (found mb NB .store) ∧ Ext (fun _ => False) wr w' := by
  simp only [resC, found]
  go_enter Yba.func45, Yba.ntmps45
  go_wp2
  go_ret
  exact ⟨rfl, Ext.alloc _ _⟩
set_option maxHeartbeats 1000000 in
theorem findT_any (h : Mg X w0 mb NB L TP cnt wr) (t : ByteArray) (ht : t.size ≤ maxLen) : Calls Yba.prog 45 #[.pointer (some ⟨mb, 0, none⟩), .agg (resC (.tab t))] wr fun e w' => e = .returned (found mb NB (.tab t)) ∧ Ext (fun _ => False) wr w' := by
  have HH := hide h
  simp only [resC, found]
  go_enter Yba.func45, Yba.ntmps45
  go_upto_region 5 with fail
  have HB := hide (HH.out.ext0 (Ext.alloc wr (.cells #[.int .u8 1, .int .u8 0, .int .u8 0, .string t, .string ⟨#[]⟩] 49)))
  have HR := hide (Blk.new wr #[.int .u8 1, .int .u8 0, .int .u8 0, .string t, .string ⟨#[]⟩] 49)
  have HE := hide (Ext.alloc wr (.cells #[.int .u8 1, .int .u8 0, .int .u8 0, .string t, .string ⟨#[]⟩] 49))
  generalize wr.alloc (.cells #[.int .u8 1, .int .u8 0, .int .u8 0, .string t, .string ⟨#[]⟩] 49) = W at HB HR HE ⊢
  generalize wr.heap.size = rb at HR ⊢
  have c31 := HB.out.cTabs.1
  have r3 : W.cell? ⟨rb, 3, none⟩ = some (.string t) := HR.out.cell 3
  have hl := fun q => (HB.out.ext0 (Ext.drewN W q)).oTabs t ht
  go_quiet (fail)
  go_wp2_with fail
  go_ret
  exact ⟨rfl, ecomp HE.out (Ext.drewN _ _)⟩
end
end Go.Proofs.YbulkdtuwC
