import Derived.Test.YbulkdtxaAX2
namespace Go.Proofs.YbulkdtxaA
open Go.RowKit RawMap

/-- the rows that come after: each subtag's row, where it is shorter -/
def pickL (con : Kd → List Nat) : Kd → List (List UInt8) → Kd
  | k, [] => k
  | k, s :: L => if (con k).length = 0 then k else pickL con (if (con (.later s)).length < (con k).length then .later s else k) L
def startK (r first : List UInt8) (ext : Bool) : Kd := if r = [42] ∨ (ext = true ∧ first = [42]) then .all else .first first
def pickK (con : Kd → List Nat) (r : List UInt8) (ext : Bool) : Kd := pickL con (startK r (hdS r) ext) (if tlS r = [] then [] else nx (tlS r))

theorem key9 (l : List UInt8) (h : l.length ≤ 2097152) : keyOf Yba.prog 9 (.string (str l)) = some (.string l) := by
  unfold keyOf mapKey
  rw [Yba.underlying9]
  have : (str l).size ≤ maxLen := by rw [str_size]; unfold maxLen; omega
  simp only [this, if_true]
  simp [str]
theorem keyed9 : Maps.Keyed Yba.prog 9 := Maps.string_keyed Yba.underlying9

theorem Own.form {w : World} {e : TypeId} {v : Value} {xs : List Value} (h : Own w e v xs) : ∃ a c, v = .slice a xs.length c := by
  rcases h with ⟨rfl, rfl⟩ | ⟨g, c, cur, rfl, _⟩
  · exact ⟨_, _, rfl⟩
  · exact ⟨_, _, rfl⟩

set_option maxHeartbeats 2000000 in
set_option maxRecDepth 100000 in
theorem cand_any {w : World} {xb fb lb : Nat} {vw vt : Value} {ws low : List (List UInt8)} {row : Kd → Option Value} {con : Kd → List Nat} {nm : Nat} {fm lm : Lit → Option Value} {wr : World}
    (h : Idx w xb fb lb vw vt ((row .all).getD nilS) vw vt ws low row con nm fm lm wr) (r : List UInt8) (ext : Bool) (hr : r.length ≤ 2097152) :
    Calls Yba.prog 8 #[.pointer (some ⟨xb, 0, none⟩), .string (str r), .bool ext] wr fun e w' => e = .returned ((row (pickK con r ext)).getD nilS) ∧ ∃ q, w' = wr.drewN q := by
  have hn := fun w => next_any r w hr
  have c3 : wr.cell? ⟨xb, 3, none⟩ = some (.map (some fb)) := h.xblk.cell 3
  have c4 : wr.cell? ⟨xb, 4, none⟩ = some (.map (some lb)) := h.xblk.cell 4
  have c2 : wr.cell? ⟨xb, 2, none⟩ = some ((row .all).getD nilS) := h.xblk.cell 2
  have hlook : ∀ q, (Instr.lookup 34 (.map (some fb)) (.string (str (hdS r))) false).run Yba.prog (wr.drewN q) = .ok ((row (.first (hdS r))).getD nilS) (wr.drewN q) := by
    intro q
    rw [← h.frow]
    exact Mp.look (h.fmap.of (w' := wr.drewN q) rfl) keyed9 Yba.underlying34 (Yba.zeroValue28 _) (key9 _ (by
      have : (hdS r).length ≤ r.length := (List.takeWhile_sublist _).length_le
      omega))
  go_enter Yba.func8, Yba.ntmps8
  have HL42 : Hid (∀ x : List UInt8, (str x).toList = x) := fun x => by rw [Lib.toList_data]; simp [str]
  go_upto_region 3 with (go_at_call 15; refine (hn _).mono ?_; rintro e w' ⟨rfl, q, rfl⟩)
  go_cut [31] (fun s31 wx => s31 = .bool (decide (r = [42] ∨ (ext = true ∧ hdS r = [42]))) ∧ wx = wr.drewN q)
  case first =>
    by_cases h1 : r = [42]
    · have b1 : ((str r).toList == [42]) = true := by rw [HL42.out]; simp [h1]
      have H1 := hide h1
      clear h1
      go_wp2_with fail
      go_meet
      case rel => exact ⟨by rw [decide_eq_true (.inl H1.out)], rfl⟩
    · have b1 : ((str r).toList == [42]) = false := by rw [HL42.out]; simpa using h1
      have H1 := hide h1
      clear h1
      cases ext with
      | false =>
        go_wp2_with fail
        go_meet
        case rel => exact ⟨by rw [decide_eq_false (fun h => by rcases h with h | ⟨h, _⟩; exact H1.out h; cases h)], rfl⟩
      | true =>
        by_cases h2 : hdS r = [42]
        · have b2 : ((str (hdS r)).toList == [42]) = true := by rw [HL42.out]; simp [h2]
          have H2 := hide h2
          clear h2
          go_wp2_with fail
          go_meet
          case rel => refine ⟨?_, rfl⟩; simp [H2.out]
        · have b2 : ((str (hdS r)).toList == [42]) = false := by rw [HL42.out]; simpa using h2
          have H2 := hide h2
          clear h2
          go_wp2_with fail
          go_meet
          case rel => refine ⟨?_, rfl⟩; simp [H1.out, H2.out]
  case rest =>
    obtain ⟨rfl, rfl⟩ := hcut
    obtain ⟨cb, hcb⟩ : ∃ cb, decide (r = [42] ∨ (ext = true ∧ hdS r = [42])) = cb := ⟨_, rfl⟩
    have hst : Hid (startK r (hdS r) ext = if cb then .all else .first (hdS r)) := by
      show startK r (hdS r) ext = _
      unfold startK
      rw [← hcb]
      by_cases hc : r = [42] ∨ (ext = true ∧ hdS r = [42]) <;> simp [hc]
    rw [hcb]
    clear hcb
    go_upto_if 31 with fail
    go_cut [9] (fun s9 wx => s9 = (row (startK r (hdS r) ext)).getD nilS ∧ wx = wr.drewN q)
    case first =>
      cases cb with
      | true =>
        go_wp2_with fail
        go_meet
        case rel => exact ⟨by rw [hst.out]; rfl, rfl⟩
      | false =>
        go_wp2_with fail
        go_meet
        case rel => exact ⟨by rw [hst.out]; rfl, rfl⟩
    case rest =>
      obtain ⟨rfl, rfl⟩ := hcut
      have HN : Hid (∀ rest : List UInt8, rest.length ≤ 2097152 → ∀ w, Calls Yba.prog 15 #[.string (str rest)] w fun e w' => e = .returned (.tuple #[.string (str (hdS rest)), .string (str (tlS rest))]) ∧ ∃ q, w' = w.drewN q) := fun rest hrest w => next_any rest w hrest
      have HI := hide h
      have htl : (tlS r).length ≤ r.length := by
        unfold tlS
        have := (List.dropWhile_sublist (l := r) (fun c => decide (c ≠ 45))).length_le
        rw [List.length_drop]; omega
      clear hn hlook h c2 c3
      go_wp2_with fail
      go_loopg [8, 9] ((tlS r).length + 1) (fun f s8 s9 wx => ∃ (rest : List UInt8) (k : Kd) (q : Nat), s8 = .string (str rest) ∧ s9 = (row k).getD nilS ∧ rest.length < f ∧ rest.length ≤ 2097152 ∧ Hid (pickK con r ext = pickL con k (if rest = [] then [] else nx rest)) ∧ wx = wr.drewN q)
      case atStart => exact ⟨tlS r, startK r (hdS r) ext, q, rfl, rfl, by omega, by omega, rfl, rfl⟩
      case round =>
        obtain ⟨rest, k, q2, rfl, rfl, hf, hrl, hpk, rfl⟩ := hrel
        obtain ⟨a, c, hv⟩ := Own.form (HI.out.fam.ownD k)
        rw [List.length_map] at hv
        rw [hv]
        by_cases h0 : rest = []
        · have hemp : (str rest).toList.isEmpty = true := by rw [HL42.out, h0]; rfl
          have hres : Hid ((row (pickK con r ext)).getD nilS = .slice a (con k).length c) := by
            show _ = _
            rw [hpk.out, if_pos h0, pickL, hv]
          clear hv h0
          go_wp2
          go_ret
          exact ⟨by rw [hres.out]; rfl, _, rfl⟩
        · have hemp : (str rest).toList.isEmpty = false := by
            rw [HL42.out]
            cases rest with
            | nil => exact absurd rfl h0
            | cons x y => rfl
          have hpk2 : Hid (pickK con r ext = pickL con k (hdS rest :: (if tlS rest = [] then [] else nx (tlS rest)))) := by
            show _ = _
            rw [hpk.out, if_neg h0, nx_eq]
          have htl2 : (tlS rest).length < rest.length := by
            have h1 : 0 < rest.length := List.length_pos_iff.2 h0
            have := (List.dropWhile_sublist (l := rest) (fun c => decide (c ≠ 45))).length_le
            unfold tlS
            rw [List.length_drop]; omega
          have hhd : (hdS rest).length ≤ rest.length := (List.takeWhile_sublist _).length_le
          by_cases hk0 : (con k).length = 0
          · have hres : Hid ((row (pickK con r ext)).getD nilS = .slice a (con k).length c) := by
              show _ = _
              rw [hpk2.out, pickL, if_pos hk0, hv]
            clear hv h0
            go_wp2
            go_ret
            exact ⟨by rw [hres.out, hk0]; rfl, _, rfl⟩
          · have hn := HN.out rest hrl
            obtain ⟨a2, c2, hv2⟩ := Own.form (HI.out.fam.ownD (.later (hdS rest)))
            rw [List.length_map] at hv2
            have hlook : ∀ q, (Instr.lookup 34 (.map (some lb)) (.string (str (hdS rest))) false).run Yba.prog (wr.drewN q) = .ok (.slice a2 (con (.later (hdS rest))).length c2) (wr.drewN q) := by
              intro q
              rw [← hv2, ← HI.out.lrow]
              exact Mp.look (HI.out.lmap.of (w' := wr.drewN q) rfl) keyed9 Yba.underlying34 (Yba.zeroValue28 _) (key9 _ (by omega))
            have HV := hide hv
            have HV2 := hide hv2
            have HK0 := hide hk0
            have hpos : 0 < (con k).length := by omega
            clear hv hv2 h0 hk0
            by_cases hlt : (con (.later (hdS rest))).length < (con k).length
            · go_wp2_with (go_at_call 15; refine (hn _).mono ?_; rintro e w' ⟨rfl, q3, rfl⟩)
              go_roundg ((tlS rest).length + 1)
              case measure => omega
              case rel => exact ⟨tlS rest, .later (hdS rest), _, rfl, HV2.out.symm, by omega, by omega, by show _ = _; rw [hpk2.out, pickL, if_neg HK0.out, if_pos hlt], rfl⟩
            · go_wp2_with (go_at_call 15; refine (hn _).mono ?_; rintro e w' ⟨rfl, q3, rfl⟩)
              go_roundg ((tlS rest).length + 1)
              case measure => omega
              case rel => exact ⟨tlS rest, k, _, rfl, HV.out.symm, by omega, by omega, by show _ = _; rw [hpk2.out, pickL, if_neg HK0.out, if_neg hlt], rfl⟩
end Go.Proofs.YbulkdtxaA
