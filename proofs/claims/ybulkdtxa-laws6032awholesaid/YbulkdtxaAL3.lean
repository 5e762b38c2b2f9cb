import Derived.Test.YbulkdtxaAL2
import Derived.Test.YbulkdtxaAX7
namespace Go.Proofs.YbulkdtxaA
open Go.RowKit RawMap

def tot (rng : List UInt8) (tags : List (List UInt8)) (i : Nat) : Nat := rng.length + ((tags.take i).map List.length).sum
theorem tot_next {rng : List UInt8} {tags : List (List UInt8)} {i : Nat} (hi : i < tags.length) : tot rng tags (i + 1) = tot rng tags i + tags[i].length := by
  unfold tot
  rw [List.take_succ_eq_append_getElem hi, List.map_append, List.sum_append]
  simp
  omega
theorem sum_mem {L : List Nat} {x : Nat} (h : x ∈ L) : x ≤ L.sum := by
  induction L with
  | nil => cases h
  | cons y L ih =>
    rw [List.sum_cons]
    rcases List.mem_cons.1 h with h | h
    · omega
    · have := ih h; omega
theorem tot_all {rng : List UInt8} {tags : List (List UInt8)} (h : tot rng tags tags.length ≤ 1048576) : rng.length ≤ 1048576 ∧ (∀ s ∈ tags, s.length ≤ 1048576) ∧ ∀ s ∈ tags, s.length + rng.length ≤ 1048576 := by
  unfold tot at h
  rw [List.take_length] at h
  have : ∀ s ∈ tags, s.length ≤ (tags.map List.length).sum := fun s hs => sum_mem (List.mem_map.2 ⟨s, hs, rfl⟩)
  exact ⟨by omega, fun s hs => by have := this s hs; omega, fun s hs => by have := this s hs; omega⟩
theorem tot_bound {rng : List UInt8} {tags : List (List UInt8)} (h1 : rng.length ≤ 140737488355328) (h2 : ∀ s ∈ tags, s.length ≤ 140737488355328) : ∀ i, i ≤ tags.length → tot rng tags i ≤ 140737488355328 + i * 140737488355328
  | 0, _ => by simp [tot]; exact h1
  | i + 1, hi => by
    have := tot_bound h1 h2 i (by omega)
    rw [tot_next (by omega)]
    have h3 := h2 _ (List.getElem_mem (show i < tags.length by omega))
    omega

theorem Mine.ext {w wr w' : World} {e : TypeId} {v : Value} {xs : List Value} (h : Mine w e v xs wr) (k : Ext (fun _ => False) wr w') : Mine w e v xs w' := ⟨h.1.ext k (fun _ _ => id), h.2.1, h.2.2.comp k⟩

theorem str_beq (a b : List UInt8) : ((str a).toList == (str b).toList) = decide (a = b) := by
  rw [Lib.toList_data, Lib.toList_data]
  by_cases h : a = b
  · subst h; simp
  · rw [decide_eq_false h]
    simpa [str] using h

theorem str_app (a b : List UInt8) : str (a ++ b) = str a ++ str b := by
  apply ByteArray.ext
  simp [str, ByteArray.data_append]

theorem inf22 : ∃ i, Yba.prog.info? 22 = some i ∧ i.zero = some (.slice none 0 0) ∧ i.size = 1 ∧ i.bytes = 24 := ⟨Yba.t22, by kernel_rfl, by kernel_rfl, by kernel_rfl, by kernel_rfl⟩
/-- a row that the index hands out -/
theorem Idx.got {w : World} {xb fb lb : Nat} {x0 x1 x2 vw vt : Value} {ws low : List (List UInt8)} {row : Kd → Option Value} {con : Kd → List Nat} {nm : Nat} {fm lm : Lit → Option Value} {wr : World} (h : Idx w xb fb lb x0 x1 x2 vw vt ws low row con nm fm lm wr) (k : Kd) :
    ∃ ra rc, (row k).getD nilS = .slice ra (con k).length rc ∧ ra.isNone = decide ((con k).length = 0) ∧ HoldsI wr (.slice ra (con k).length rc) (con k) := by
  have hO := h.fam.ownD k
  have hH := hO.holdsI
  cases hr : row k with
  | none =>
    have h0 := h.fam.none k hr
    refine ⟨none, 0, by rw [h0]; rfl, by rw [h0]; rfl, ?_⟩
    rw [hr] at hH
    rw [h0] at hH ⊢
    exact hH
  | some v =>
    have h0 := h.fam.full k v hr
    rw [hr] at hO hH
    obtain ⟨g, c, hv, _, _⟩ := own_at hO (by simpa using h0)
    rw [List.length_map] at hv
    simp only [Option.getD_some] at hv hH
    refine ⟨some ⟨g, 0, none⟩, c, hv, ?_, ?_⟩
    · have : (con k).length ≠ 0 := fun e => h0 (List.eq_nil_of_length_eq_zero e)
      rw [decide_eq_false this]; rfl
    · rw [← hv]; exact hH

theorem BSt.subCell {w3 : World} {low : List (List UInt8)} {pb g n c : Nat} {r : List UInt8} {vb : Value} {best : List Nat} {wr : World} (h : BSt w3 low pb (.slice (some ⟨g, 0, none⟩) n c) r vb best wr) {k : Nat} {s : List UInt8} (hs : (nx r)[k]? = some s) : wr.cell? ⟨g, k, none⟩ = some (.string (str s)) := by
  obtain ⟨g', c', hv, _, hc⟩ := h.subAt
  injection hv with e1 e2 e3
  injection e1 with e1
  injection e1 with e1
  subst e1
  exact hc k s hs
theorem con_len {low : List (List UInt8)} (h : ∀ t ∈ low, t.length ≤ 1048576) (hl : low.length ≤ 4096) (k : Kd) : (conOf low k).length ≤ 4294967296 := by
  cases k with
  | all => simp [conOf]; omega
  | first s => have := first_len low s; omega
  | later s => have := later_len h s; omega
theorem BSt.extW {w3 : World} {low : List (List UInt8)} {pb : Nat} {vs : Value} {r : List UInt8} {vb : Value} {best : List Nat} {wr : World} (h : BSt w3 low pb vs r vb best wr) : Ext (fun _ => False) w3 wr := by
  obtain ⟨arr, _, _, _, hE, _⟩ := h.parts
  exact hE

theorem equalI_same {w : World} {v1 v2 : Value} {L : List Nat} (h1 : HoldsI w v1 L) (h2 : HoldsI w v2 L) (hL : L.length ≤ 4294967296) : Calls Yba.prog 10 #[v1, v2] w fun e w' => e = .returned (.bool true) ∧ ∃ q, w' = w.drewN q :=
  (equalI_any h1 h2 (by omega) (by omega)).mono (by rintro e w' ⟨rfl, hq⟩; exact ⟨by rw [decide_eq_true rfl], hq⟩)
theorem equal_same {w : World} {v1 v2 : Value} {L : List (List UInt8)} (h1 : Holds w v1 L) (h2 : Holds w v2 L) (hL : L.length ≤ 4096) : Calls Yba.prog 11 #[v1, v2] w fun e w' => e = .returned (.bool true) ∧ ∃ q, w' = w.drewN q :=
  (equal_any h1 h2 hL hL).mono (by rintro e w' ⟨rfl, hq⟩; exact ⟨by rw [decide_eq_true rfl], hq⟩)

set_option maxHeartbeats 40000000 in
set_option maxRecDepth 100000 in
theorem lawA_any {w : World} (p : Option Addr) (tc : Nat) (tags : List (List UInt8)) (rng : List UInt8) (ext : Bool) (pk : Nat) (hpk : pk < 256) (hl : tags.length ≤ 4096) (hb : ∀ s ∈ tags, s.length ≤ 140737488355328) (hrng : rng.length ≤ 140737488355328)
    (hH : Holds w (.slice p tags.length tc) tags) (ha : ∀ a, p = some a → ∀ j s, tags[j]? = some s → w.cell? (a.add j) = some (encS s)) :
    Calls Yba.prog 3 #[.slice p tags.length tc, .string (str rng), .bool ext, .int .u8 (pk : Nat)] w fun e w' => e = .returned (.bool true) ∧ Ext (fun _ => False) w w' := by
  have HHH := hide hH
  have HA := hide ha
  have HB := hide hb
  have hp : tags ≠ [] → ∃ a, p = some a := fun hn => by
    obtain ⟨a, c, hv, h⟩ := hH
    obtain ⟨b, off, e, _⟩ := h hn
    injection hv with e1
    exact ⟨_, e1.trans e⟩
  have HP := hide hp
  have hsz := str_size rng
  have HTB := hide (tot_bound hrng hb)
  clear hH ha hb hp
  go_enter Yba.func3, Yba.ntmps3
  go_wp2
  go_loopg [9, 10] tags.length (fun f s9 s10 wr => ∃ i : Nat, s9 = .int .i64 (tot rng tags i : Nat) ∧ s10 = .int .i64 (i : Nat) ∧ i ≤ tags.length ∧ tags.length - i ≤ f ∧ wr = w)
  case atStart => exact ⟨0, by simp [tot], rfl, by omega, by omega, rfl⟩
  case round =>
    as_aux_lemma =>
      obtain ⟨i, rfl, rfl, hi, hf, hwr⟩ := hrel
      replace hwr := hwr.symm
      subst hwr
      have hbt := HTB.out i hi
      by_cases hlt : i < tags.length
      · obtain ⟨a, rfl⟩ := HP.out (fun e => by rw [e] at hlt; simp at hlt)
        obtain ⟨tg, htg⟩ : ∃ tg, tags[i] = tg := ⟨_, rfl⟩
        have ci : w.cell? (a.add i) = some (.string (str tg)) := HA.out a rfl i tg (by rw [List.getElem?_eq_getElem hlt, htg])
        have htl : tg.length ≤ 140737488355328 := by rw [← htg]; exact HB.out _ (List.getElem_mem hlt)
        have hst := str_size tg
        have HN := hide (tot_next (rng := rng) hlt)
        rw [htg] at HN
        clear htg
        obtain ⟨t0, ht0⟩ : ∃ t0, tot rng tags i = t0 := ⟨_, rfl⟩
        rw [ht0] at hbt HN ⊢
        clear ht0
        go_wp2_with fail
        go_roundg (tags.length - (i + 1))
        case measure => omega
        case rel => exact ⟨i + 1, by rw [HN.out]; go_num, by go_num, by omega, by omega, rfl⟩
      · obtain rfl : i = tags.length := by omega
        by_cases hbig : 1048576 < tot rng tags tags.length
        · obtain ⟨t0, ht0⟩ : ∃ t0, tot rng tags tags.length = t0 := ⟨_, rfl⟩
          rw [ht0] at hbt hbig ⊢
          clear ht0
          go_wp2
          go_ret
          exact ⟨rfl, Ext.refl _⟩
        · obtain ⟨hr20, hs20, hsr20⟩ := tot_all (by omega : tot rng tags tags.length ≤ 1048576)
          obtain ⟨t0, ht0⟩ : ∃ t0, tot rng tags tags.length = t0 := ⟨_, rfl⟩
          rw [ht0] at hbt hbig ⊢
          clear ht0 HTB HB
          have HS20 := hide hs20
          have HSR := hide hsr20
          clear hs20 hsr20
          go_wp2_with (go_at_call 5; refine (clone_any HHH.out hl).mono ?_; rintro e w1 ⟨oa, oc, rfl, hnil, hoh, hoe⟩; have HOH := hide hoh; have HOE := hide hoe; have HNIL := hide hnil; clear hoh hoe hnil)
          have HOW := hide (Mine.start w1 9)
          go_loopg [12, 13] tags.length (fun f s12 s13 wx => ∃ i : Nat, s13 = .int .i64 (i : Nat) ∧ i ≤ tags.length ∧ tags.length - i ≤ f ∧ Hid (Mine w1 9 s12 ((ddup [] (tags.take i)).map encS) wx))
          case atStart => exact ⟨0, rfl, by omega, by omega, HOW⟩
          case round =>
            as_aux_lemma =>
              obtain ⟨i, rfl, hi, hf, hM⟩ := hrel
              by_cases hlt : i < tags.length
              · obtain ⟨a, rfl⟩ := HP.out (fun e => by rw [e] at hlt; simp at hlt)
                obtain ⟨tg, htg⟩ : ∃ tg, tags[i] = tg := ⟨_, rfl⟩
                have ci : wr.cell? (a.add i) = some (.string (str tg)) := (HOE.out.comp hM.out.2.2).cell (HA.out a rfl i tg (by rw [List.getElem?_eq_getElem hlt, htg])) id
                have htl : tg.length ≤ 1048576 := by rw [← htg]; exact HS20.out _ (List.getElem_mem hlt)
                have hnext := ddup_next hlt htg
                obtain ⟨low, hlow⟩ : ∃ low, ddup [] (tags.take i) = low := ⟨_, rfl⟩
                have hlowl : low.length ≤ 4096 := by
                  rw [← hlow]
                  have := ddup_len [] (tags.take i)
                  simp at this
                  omega
                rw [hlow] at hM hnext
                have HNX := hide hnext
                clear htg hlow hnext
                go_wp2_with (go_at_call 6; refine (zlower_any tg _ (by omega)).mono ?_; rintro e w2 ⟨rfl, hx2⟩; have hM2 := hM.out.ext hx2; obtain ⟨va, vc, hva⟩ := hM2.1.form; rw [List.length_map] at hva; have HM2 := hide hM2; clear hM hM2 hx2 ci)
                subst hva
                have hlen9 : Hid ((lwS tg).length ≤ 1048576) := by show _ ≤ _; simp only [lwS, List.length_map]; omega
                go_loopg [15, 16] low.length (fun f s15 s16 wx => ∃ k : Nat, s15 = .bool false ∧ s16 = .int .i64 (k : Nat) ∧ k ≤ low.length ∧ low.length - k ≤ f ∧ wx = w2 ∧ Hid (∀ j, j < k → low[j]? ≠ some (lwS tg)))
                case atStart => exact ⟨0, rfl, rfl, by omega, by omega, rfl, fun j h => absurd h (by omega)⟩
                case round =>
                  as_aux_lemma =>
                    obtain ⟨k, rfl, rfl, hk, hfk, hwr, hno⟩ := hrel
                    replace hwr := hwr.symm
                    subst hwr
                    by_cases hkl : k < low.length
                    · obtain ⟨g, c, hv, hc, hcell⟩ := own_at HM2.out.1 (by intro e; rw [List.map_eq_nil_iff] at e; rw [e] at hkl; simp at hkl)
                      injection hv with hv1 hv2 hv3
                      subst hv1
                      have ck : w2.cell? ⟨g, k, none⟩ = some (.string (str low[k])) := hcell k _ (by rw [List.getElem?_map, List.getElem?_eq_getElem hkl]; rfl)
                      have HLK : Hid (low[k]? = some low[k]) := List.getElem?_eq_getElem hkl
                      obtain ⟨lk, hlk⟩ : ∃ lk, low[k] = lk := ⟨_, rfl⟩
                      rw [hlk] at ck HLK
                      clear hcell hlk hv2 hv3
                      by_cases heq : lk = lwS tg
                      · subst heq
                        have hb : ((str (lwS tg)).toList == (str (lwS tg)).toList) = true := by simp
                        go_wp2_with fail
                        go_roundg (tags.length - (i + 1))
                        case measure => omega
                        case rel => exact ⟨i + 1, by go_num, by omega, by omega, by have h := HNX.out; rw [if_pos (List.mem_of_getElem? HLK.out)] at h; rw [h]; exact HM2.out⟩
                      · have hb : ((str lk).toList == (str (lwS tg)).toList) = false := by rw [str_beq]; simpa using heq
                        have HEQ := hide heq
                        clear heq
                        go_wp2_with fail
                        go_roundg (low.length - (k + 1))
                        case measure => omega
                        case rel =>
                          refine ⟨k + 1, rfl, by go_num, by omega, by omega, rfl, fun j hj e => ?_⟩
                          rcases Nat.lt_or_eq_of_le (Nat.le_of_lt_succ hj) with h | h
                          · exact hno.out j h e
                          · subst h
                            rw [HLK.out] at e
                            injection e with e
                            exact HEQ.out e
                    · have hnm : Hid (¬ lwS tg ∈ low) := fun hm => by
                        obtain ⟨j, hj, e⟩ := List.getElem_of_mem hm
                        exact hno.out j (by omega) (by rw [List.getElem?_eq_getElem hj, e])
                      obtain rfl : k = low.length := by omega
                      obtain ⟨i9, hi9, hz9, hs9, hb9⟩ := inf9
                      go_wp2_with (at_builtin; refine wpList_append_one rfl _ _ 22 rfl 9 i9 _ 16 Yba.underlying22 hi9 hz9 hs9 hb9 rfl (.slice va low.length vc) _ rfl (HM2.out.1.ext (Ext.alloc _ _) (fun _ _ => id)) ⟨w2.heap.size, 0, none⟩ (.string (str (lwS tg))) rfl (new_cell _ _ _) rfl rfl (by rw [List.length_map]; unfold maxLen; omega) (by rw [List.length_map]; omega) ?_; intro v2 w3 hown2 hgrow2 hb2; have HM3 := hide (HM2.out.more hown2 hgrow2 hb2.out); clear hown2 hgrow2 hb2)
                      go_roundg (tags.length - (i + 1))
                      case measure => omega
                      case rel => exact ⟨i + 1, by go_num, by omega, by omega, by have h := HNX.out; rw [if_neg hnm.out] at h; rw [h, List.map_append]; exact HM3.out⟩
              · obtain rfl : i = tags.length := by omega
                rw [List.take_length] at hM
                have hlowl : (ddup [] tags).length ≤ 4096 := by
                  have := ddup_len [] tags
                  simp at this
                  omega
                have hlowb : Hid (∀ t ∈ ddup [] tags, t.length ≤ 1048576) := by
                  intro t ht
                  rcases ddup_mem _ _ _ ht with h | ⟨x, hx, rfl⟩
                  · cases h
                  · have := HS20.out x hx
                    simpa [lwS] using this
                have hlowr : Hid (∀ t ∈ ddup [] tags, t.length + 1 + rng.length ≤ 2097152) := by
                  intro t ht
                  rcases ddup_mem _ _ _ ht with h | ⟨x, hx, rfl⟩
                  · cases h
                  · have := HSR.out x hx
                    simp only [lwS, List.length_map]
                    omega
                obtain ⟨low, hlow⟩ : ∃ low, ddup [] tags = low := ⟨_, rfl⟩
                rw [hlow] at hM hlowl hlowb hlowr
                have HLOW := hide hlow
                obtain ⟨va, vc, hva⟩ := hM.out.1.form
                rw [List.length_map] at hva
                subst hva
                clear hlow HSR HOW
                go_upto_region 26 with fail
                go_cut [92] (fun s92 wx => wx = wr ∧ ∃ b : Bool, s92 = .bool b ∧ (b = true → 0 < low.length))
                case first =>
                  as_aux_lemma =>
                    by_cases hbit : bits .and .u8 (pk : Nat) 1 = 1
                    · by_cases hn0 : 0 < low.length
                      · go_wp2_with fail
                        go_meet
                        case rel => exact ⟨rfl, true, rfl, fun _ => hn0⟩
                      · have hn00 : low.length = 0 := by omega
                        go_wp2_with fail
                        go_meet
                        case rel => exact ⟨rfl, false, rfl, fun h => by cases h⟩
                    · go_wp2_with fail
                      go_meet
                      case rel => exact ⟨rfl, false, rfl, fun h => by cases h⟩
                case rest =>
                  as_aux_lemma =>
                    obtain ⟨rfl, b, rfl, hb0⟩ := hcut
                    go_upto_if 92 with fail
                    go_cut [18] (fun s18 wx => wx = wc ∧ ∃ rr : List UInt8, s18 = .string (str rr) ∧ rr.length ≤ 2097152)
                    case first =>
                      as_aux_lemma =>
                        cases b with
                        | false =>
                          go_wp2_with fail
                          go_meet
                          case rel => exact ⟨rfl, rng, rfl, by omega⟩
                        | true =>
                          have hn0 := hb0 rfl
                          have hidx : ((pk : Nat) : Int) / 2 % ((low.length : Nat) : Int) = ((pk / 2 % low.length : Nat) : Int) := by simp
                          have hmlt : pk / 2 % low.length < low.length := Nat.mod_lt _ hn0
                          generalize pk / 2 % low.length = m at hidx hmlt
                          obtain ⟨g, c, hv, hc, hcell⟩ := own_at hM.out.1 (by intro e; rw [List.map_eq_nil_iff] at e; rw [e] at hn0; simp at hn0)
                          injection hv with hv1 hv2 hv3
                          subst hv1
                          have cm : wc.cell? ⟨g, m, none⟩ = some (.string (str low[m])) := hcell m _ (by rw [List.getElem?_map, List.getElem?_eq_getElem hmlt]; rfl)
                          have HLR := hlowr.out _ (List.getElem_mem hmlt)
                          obtain ⟨lm, hlm⟩ : ∃ lm, low[m] = lm := ⟨_, rfl⟩
                          rw [hlm] at cm HLR
                          clear hcell hlm hv2 hv3 hb0
                          by_cases hr0 : rng = []
                          · have hemp : (str rng).toList.isEmpty = true := by rw [hr0, Lib.toList_data]; rfl
                            clear hr0
                            go_wp2_with fail
                            go_meet
                            case rel => exact ⟨rfl, lm, rfl, by omega⟩
                          · have hemp : (str rng).toList.isEmpty = false := by rw [Lib.toList_data]; simpa [str] using hr0
                            clear hr0
                            have hz1 := str_size lm
                            have hz2 : (str lm ++ ⟨#[45]⟩).size = lm.length + 1 := by rw [show (⟨#[45]⟩ : ByteArray) = str [45] from rfl, ← str_app, str_size]; simp
                            go_wp2_with fail
                            go_meet
                            case rel => exact ⟨rfl, lm ++ [45] ++ rng, by simp only [str_app]; rfl, by simp; omega⟩
                    case rest =>
                      as_aux_lemma =>
                        obtain ⟨rfl, rr, rfl, hrr⟩ := hcut
                        obtain ⟨i22, hi22, hz22, hs22, hb22⟩ := inf22
                        go_wp2_with (first | (go_at_call 7; refine (new_any p tc tags hl HS20.out HP.out (fun a ha j s hj => (HOE.out.comp hM.out.2.2).cell (HA.out a ha j s hj) id)).mono ?_; rintro e w2 ⟨rfl, hN⟩; rw [HLOW.out] at hN; obtain ⟨⟨vw, vt, ws, row, nm, fm, lm, hI, hN1, hN2⟩, hN3, hN4⟩ := hN; have HI := hide hI; clear hI hN1 hN2 hN3 hN4) | (go_at_call 8; refine (cand_any HI.out rr ext hrr).mono ?_; rintro e w3' ⟨rfl, q, rfl⟩; obtain ⟨ra, rc, hra, hrn, hrh⟩ := HI.out.got (pickK (conOf low) rr ext); have HRN := hide hrn; have HRH := hide (hrh.ext (Ext.drewN w2 q)); rw [hra]; have HVT := hide ((HI.out.ownT.holds).ext (Ext.drewN w2 q)); have HXC : Hid ((w2.drewN q).cell? ⟨wc.heap.size + 2, 1, none⟩ = some vt) := HI.out.xblk.cell 1; have HE3 := hide (hM.out.2.2.comp (HI.out.ext.comp (Ext.drewN w2 q))); have HLW := hide (hM.out.1.ext (HI.out.ext.comp (Ext.drewN w2 q)) (fun _ _ => id)); clear hrh hra hrn HI; generalize w2.drewN q = w3 at HRH HVT HXC HE3 HLW ⊢) | (at_make; refine wpList_make_full _ rfl _ _ 30 rfl w3.heap.size 22 i22 _ 1 Yba.underlying30 hi22 hz22 hs22 _ _ _ _ low.length rfl rfl (by omega) (by omega) (by rw [hb22]; omega) (by unfold maxLen; omega) (Nat.le_refl _) ?_; intro w4 hown4 hgrow4; obtain ⟨cur, hb4, hc4, hd4⟩ := own_blk hown4; have HPT : Hid (Parts w3 low w3.heap.size 0 w4) := ⟨cur, hb4, hc4, Nat.le_refl _, ext_make hgrow4, fun j hj => absurd hj (by omega)⟩; clear hown4 hgrow4 hb4 hc4 hd4))
                        clear hM HS20
                        generalize wc.heap.size + 2 = xb at HXC ⊢
                        obtain ⟨pb, hpb⟩ : ∃ pb, w3.heap.size = pb := ⟨_, rfl⟩
                        rw [hpb] at HPT ⊢
                        clear hpb
                        go_loopg [22] low.length (fun f s22 wx => ∃ j : Nat, s22 = .int .i64 (j : Nat) ∧ j ≤ low.length ∧ low.length - j ≤ f ∧ Hid (Parts w3 low pb j wx))
                        case atStart => exact ⟨0, rfl, by omega, by omega, HPT⟩
                        case round =>
                          as_aux_lemma =>
                            obtain ⟨j, rfl, hj, hfj, hPj⟩ := hrel
                            by_cases hjl : j < low.length
                            · obtain ⟨g, c, hv, hc, hcell⟩ := own_at HLW.out (by intro e; rw [List.map_eq_nil_iff] at e; rw [e] at hjl; simp at hjl)
                              injection hv with hv1 hv2 hv3
                              subst hv1
                              have hE := hPj.out.choose_spec.2.2.2.1
                              have ck : wr.cell? ⟨g, j, none⟩ = some (.string (str (low.getD j []))) := hE.cell (hcell j _ (by rw [List.getElem?_map, List.getElem?_eq_getElem hjl, List.getD_eq_getElem?_getD, List.getElem?_eq_getElem hjl]; rfl)) id
                              have hlj : (low.getD j []).length ≤ 2097152 := by
                                have := hlowb.out (low.getD j []) (by rw [List.getD_eq_getElem?_getD, List.getElem?_eq_getElem hjl]; exact List.getElem_mem hjl)
                                omega
                              obtain ⟨lj, hlj0⟩ : ∃ lj, low.getD j [] = lj := ⟨_, rfl⟩
                              rw [hlj0] at ck hlj
                              have HLJ := hide hlj0
                              clear hcell hv2 hv3 hE hlj0
                              go_wp2_with (go_at_call 9; refine (split_any lj _ hlj).mono ?_; rintro e w5 ⟨v5, rfl, hm5⟩; have HP5 := hide (hPj.out.ext0 hm5.2.2); have HO5 := hide hm5.1; obtain ⟨va5, vc5, hv5⟩ := hm5.1.form; subst hv5; obtain ⟨cur5, hb5, hs5, hr5⟩ := HP5.out; have kc5 : w5.cell? ⟨pb, j, none⟩ = some (cur5[j]'(by omega)) := (hb5.cell j).trans (Array.getElem?_eq_getElem (by omega)); have kf5 : w5.frozen? ⟨pb, j, none⟩ = false := hb5.frozen j; clear hb5 hr5 hm5 hPj)
                              go_roundg (low.length - (j + 1))
                              case measure => omega
                              case rel => exact ⟨j + 1, by go_num, by omega, by omega, HP5.out.store hjl (by rw [HLJ.out]; have h := HO5.out; rw [List.length_map] at h; exact h)⟩
                            · obtain rfl : j = low.length := by omega
                              have h6 := fun w => split_any rr w hrr
                              have hnx0 : Hid ((nx rr)[0]? = some (hdS rr)) := by show _ = _; rw [nx_eq]; rfl
                              have hnxn : Hid (nx rr ≠ []) := by show _ ≠ _; rw [nx_eq]; simp
                              go_upto_region 40 with (go_at_call 9; refine (h6 _).mono ?_; rintro e w6 ⟨v6, rfl, hm6⟩; have HP6 := hide (hPj.out.ext0 hm6.2.2); obtain ⟨g6, c6, hv6, hc6, hcell6⟩ := own_at hm6.1 (by simpa using hnxn.out); have k06 : w6.cell? ⟨g6, 0, none⟩ = some (.string (str (hdS rr))) := hcell6 0 _ (by rw [List.getElem?_map, hnx0.out]; rfl); rw [List.length_map] at hv6 hc6; have hl6 : 0 < (nx rr).length := List.length_pos_iff.2 hnxn.out; subst hv6; have HO6 := hide hm6.1; clear hm6 hPj hcell6 h6)
                              have HBS : Hid (BSt w3 low pb (.slice (some ⟨g6, 0, none⟩) (nx rr).length c6) rr (.slice none 0 0) [] w6) := ⟨HP6.out, HO6.out, .inl ⟨rfl, rfl⟩, fun _ h => nomatch h⟩
                              have HL42 : Hid (∀ x : List UInt8, (str x).toList = x) := fun x => by rw [Lib.toList_data]; simp [str]
                              clear HP6 HO6 k06 HPT
                              go_cut [141] (fun s141 wx => s141 = .bool (decide (rr = [42] ∨ (ext = true ∧ hdS rr = [42]))) ∧ wx = w6)
                              case first =>
                                as_aux_lemma =>
                                  by_cases h1 : rr = [42]
                                  · have b1 : ((str rr).toList == [42]) = true := by rw [HL42.out]; simp [h1]
                                    have H1 := hide h1
                                    clear h1
                                    go_wp2_with fail
                                    go_meet
                                    case rel => exact ⟨by rw [decide_eq_true (.inl H1.out)], rfl⟩
                                  · have b1 : ((str rr).toList == [42]) = false := by rw [HL42.out]; simpa using h1
                                    have H1 := hide h1
                                    clear h1
                                    by_cases he : ext = true
                                    · by_cases h2 : hdS rr = [42]
                                      · have b2 : ((str (hdS rr)).toList == [42]) = true := by rw [HL42.out]; simp [h2]
                                        have H2 := hide h2
                                        clear h2
                                        subst he
                                        go_wp2_with fail
                                        go_meet
                                        case rel => refine ⟨?_, rfl⟩; simp [H2.out]
                                      · have b2 : ((str (hdS rr)).toList == [42]) = false := by rw [HL42.out]; simpa using h2
                                        have H2 := hide h2
                                        clear h2
                                        subst he
                                        go_wp2_with fail
                                        go_meet
                                        case rel => refine ⟨?_, rfl⟩; simp [H1.out, H2.out]
                                    · have he' : ext = false := by simpa using he
                                      subst he'
                                      go_wp2_with fail
                                      go_meet
                                      case rel => exact ⟨by rw [decide_eq_false (fun h => by rcases h with h | ⟨h, _⟩; exact H1.out h; cases h)], rfl⟩
                              case rest =>
                                as_aux_lemma =>
                                  obtain ⟨rfl, rfl⟩ := hcut
                                  obtain ⟨cb, hcb⟩ : ∃ cb, decide (rr = [42] ∨ (ext = true ∧ hdS rr = [42])) = cb := ⟨_, rfl⟩
                                  have hst : Hid (startK rr (hdS rr) ext = if cb then .all else .first (hdS rr)) := by
                                    show startK rr (hdS rr) ext = _
                                    unfold startK
                                    rw [← hcb]
                                    by_cases hc : rr = [42] ∨ (ext = true ∧ hdS rr = [42]) <;> simp [hc]
                                  rw [hcb]
                                  clear hcb
                                  go_upto_if 141 with fail
                                  go_cut [25] (fun s25 wx => Hid (BSt w3 low pb (.slice (some ⟨g6, 0, none⟩) (nx rr).length c6) rr s25 (conOf low (startK rr (hdS rr) ext)) wx))
                                  case first =>
                                    as_aux_lemma =>
                                      obtain ⟨i3, hi3, hz3, hs3, hb3⟩ := inf3
                                      cases cb with
                                      | true =>
                                        go_wp2_with fail
                                        go_loopg [25, 26] low.length (fun f s25 s26 wx => ∃ j : Nat, s26 = .int .i64 (j : Nat) ∧ j ≤ low.length ∧ low.length - j ≤ f ∧ Hid (BSt w3 low pb (.slice (some ⟨g6, 0, none⟩) (nx rr).length c6) rr s25 (List.range j) wx))
                                        case atStart => exact ⟨0, rfl, by omega, by omega, HBS⟩
                                        case round =>
                                          as_aux_lemma =>
                                            obtain ⟨j, rfl, hj, hfj, hB⟩ := hrel
                                            by_cases hjl : j < low.length
                                            · go_wp2_with (at_builtin; refine wpList_append_one rfl _ _ 28 rfl 3 i3 _ 8 Yba.underlying28 hi3 hz3 hs3 hb3 rfl u25 _ rfl (hB.out.row.ext (Ext.alloc _ _) (fun _ _ => id)) ⟨wr.heap.size, 0, none⟩ (.int .i64 (j : Nat)) rfl (new_cell _ _ _) rfl rfl (by simp [maxLen]; omega) (by simp; omega) ?_; intro v2 w7 hown2 hgrow2 hb2; have HB2 := hide (hB.out.app j hown2 hgrow2 hb2.out); clear hown2 hgrow2 hb2)
                                              go_roundg (low.length - (j + 1))
                                              case measure => omega
                                              case rel => exact ⟨j + 1, by go_num, by omega, by omega, by rw [List.range_succ]; exact HB2⟩
                                            · obtain rfl : j = low.length := by omega
                                              go_wp2
                                              go_meet
                                              case rel => rw [hst.out]; exact hB
                                      | false =>
                                        go_wp2_with fail
                                        go_loopg [25, 27] low.length (fun f s25 s27 wx => ∃ j : Nat, s27 = .int .i64 (j : Nat) ∧ j ≤ low.length ∧ low.length - j ≤ f ∧ Hid (BSt w3 low pb (.slice (some ⟨g6, 0, none⟩) (nx rr).length c6) rr s25 (partF low (hdS rr) j) wx))
                                        case atStart => exact ⟨0, rfl, by omega, by omega, HBS⟩
                                        case round =>
                                          as_aux_lemma =>
                                            obtain ⟨j, rfl, hj, hfj, hB⟩ := hrel
                                            by_cases hjl : j < low.length
                                            · obtain ⟨gj, cj, kpj, hcj, hpj⟩ := hB.out.parts.at hjl
                                              have hF1 := hide (partF_hit low j)
                                              have hF2 := hide (partF_miss low (hdS rr) j)
                                              generalize low.getD j [] = lj at kpj hcj hpj hF1 hF2
                                              have kp0 : wr.cell? ⟨gj, 0, none⟩ = some (.string (str (hdS lj))) := hpj 0 _ (by rw [nx_eq]; rfl)
                                              have hnl : 0 < (nx lj).length := by rw [nx_eq]; simp
                                              generalize hnn : (nx lj).length = nn at kpj hcj hnl
                                              have hpl := partF_len low (hdS rr) j
                                              clear hpj hnn
                                              by_cases heq : hdS lj = hdS rr
                                              · have hb : ((str (hdS lj)).toList == (str (hdS rr)).toList) = true := by rw [heq]; simp
                                                have HEQ := hide heq
                                                clear heq
                                                go_wp2_with (at_builtin; refine wpList_append_one rfl _ _ 28 rfl 3 i3 _ 8 Yba.underlying28 hi3 hz3 hs3 hb3 rfl u25 _ rfl (hB.out.row.ext (Ext.alloc _ _) (fun _ _ => id)) ⟨wr.heap.size, 0, none⟩ (.int .i64 (j : Nat)) rfl (new_cell _ _ _) rfl rfl (by rw [List.length_map]; unfold maxLen; omega) (by rw [List.length_map]; omega) ?_; intro v2 w7 hown2 hgrow2 hb2; have HB2 := hide (hB.out.app j hown2 hgrow2 hb2.out); clear hown2 hgrow2 hb2)
                                                go_roundg (low.length - (j + 1))
                                                case measure => omega
                                                case rel => exact ⟨j + 1, by go_num, by omega, by omega, by have h := hF1.out; rw [HEQ.out] at h; rw [h]; exact HB2⟩
                                              · have hb : ((str (hdS lj)).toList == (str (hdS rr)).toList) = false := by rw [str_beq]; simpa using heq
                                                have HEQ := hide heq
                                                clear heq
                                                go_wp2_with fail
                                                go_roundg (low.length - (j + 1))
                                                case measure => omega
                                                case rel => exact ⟨j + 1, by go_num, by omega, by omega, by rw [hF2.out HEQ.out]; exact hB⟩
                                            · obtain rfl : j = low.length := by omega
                                              go_wp2
                                              go_meet
                                              case rel => rw [hst.out]; exact hB
                                  case rest =>
                                    as_aux_lemma =>
                                      have hpk0 : Hid (pickK (conOf low) rr ext = pickL (conOf low) (startK rr (hdS rr) ext) ((nx rr).drop 1)) := by
                                        show _ = _
                                        unfold pickK
                                        rw [nx_eq rr]
                                        rfl
                                      have hnlen : (nx rr).length ≤ 2097153 := by
                                        have := nx_len _ rr (Nat.le_refl _)
                                        omega
                                      clear hst
                                      go_wp2_with fail
                                      go_loopg [25, 28] (nx rr).length (fun f s25 s28 wx => ∃ (k : Nat) (kk : Kd), s28 = .int .i64 (k : Nat) ∧ 1 ≤ k ∧ k ≤ (nx rr).length ∧ (nx rr).length - k ≤ f ∧ Hid (pickK (conOf low) rr ext = pickL (conOf low) kk ((nx rr).drop k)) ∧ Hid (BSt w3 low pb (.slice (some ⟨g6, 0, none⟩) (nx rr).length c6) rr s25 (conOf low kk) wx))
                                      case atStart => exact ⟨1, _, rfl, by omega, by omega, by omega, hpk0, hcut⟩
                                      case round =>
                                        as_aux_lemma =>
                                          obtain ⟨k, kk, rfl, hk1, hk2, hfk, hpkk, hB⟩ := hrel
                                          obtain ⟨ba, bc, hba⟩ := hB.out.row.form
                                          rw [List.length_map] at hba
                                          subst hba
                                          clear hcut hpk0
                                          by_cases hkl : k < (nx rr).length
                                          · by_cases hb0 : (conOf low kk).length = 0
                                            · have hkk : pickK (conOf low) rr ext = kk := by
                                                rw [hpkk.out, List.drop_eq_getElem_cons hkl, pickL, if_pos hb0]
                                              rw [hkk] at HRH HRN ⊢
                                              have hE := hB.out.extW
                                              have HG1 := hide (HRH.out.ext hE)
                                              have HG2 := hide hB.out.row.holdsI
                                              have HG3 := hide (HVT.out.ext hE)
                                              have HG4 := hide (HLW.out.holds.ext hE)
                                              have HG5 := hide (HHH.out.ext (HOE.out.comp (HE3.out.comp hE)))
                                              have HG6 := hide (HOH.out.ext (HE3.out.comp hE))
                                              have HG7 := hide (HOE.out.comp (HE3.out.comp hE))
                                              have kx : wr.cell? ⟨xb, 1, none⟩ = some vt := hE.cell HXC.out id
                                              have hrn := HRN.out
                                              have hnil := HNIL.out
                                              have hbl := con_len hlowb.out hlowl kk
                                              have hq28 := fun w a n c n' c' => Lib.run_eql_slice_nil (P := Yba.prog) w 28 3 a n c n' c' Yba.underlying28
                                              have hq22 := fun w a n c n' c' => Lib.run_eql_slice_nil (P := Yba.prog) w 22 9 a n c n' c' Yba.underlying22
                                              clear hE hB HRH HRN HVT HLW HHH HOH HE3 HOE HNIL HXC hpkk
                                              have h10 := equalI_same HG1.out HG2.out hbl
                                              generalize (conOf low kk).length = nb at h10 hrn hbl hb0 ⊢
                                              subst hb0
                                              go_upto_region 68 with (go_at_call 10; refine h10.mono ?_; rintro e w8' ⟨rfl, q8, rfl⟩; have HH3 := hide (HG3.out.ext (Ext.drewN wr q8)); have HH4 := hide (HG4.out.ext (Ext.drewN wr q8)); have HH5 := hide (HG5.out.ext (Ext.drewN wr q8)); have HH6 := hide (HG6.out.ext (Ext.drewN wr q8)); have HH7 := hide (HG7.out.comp (Ext.drewN wr q8)); have kx8 : (wr.drewN q8).cell? ⟨xb, 1, none⟩ = some vt := kx; generalize wr.drewN q8 = w8 at HH3 HH4 HH5 HH6 HH7 kx8 ⊢; clear h10 HG1 HG2 HG3 HG4 HG5 HG6 HG7 kx)
                                              have h11 := equal_same HH3.out HH4.out hlowl
                                              go_upto_region 70 with (go_at_call 11; refine h11.mono ?_; rintro e w9' ⟨rfl, q9, rfl⟩; have HK5 := hide (HH5.out.ext (Ext.drewN w8 q9)); have HK6 := hide (HH6.out.ext (Ext.drewN w8 q9)); have HK7 := hide (HH7.out.comp (Ext.drewN w8 q9)); generalize w8.drewN q9 = w9 at HK5 HK6 HK7 ⊢; clear h11 HH3 HH4 HH5 HH6 HH7 kx8)
                                              have h12 := equal_same HK5.out HK6.out hl
                                              go_wp2_with (go_at_call 11; refine h12.mono ?_; rintro e w10 ⟨rfl, q10, rfl⟩)
                                              go_ret
                                              exact ⟨rfl, HK7.out.comp (Ext.drewN _ _)⟩
                                            · obtain ⟨s, hs⟩ : ∃ s, (nx rr)[k]? = some s := ⟨_, List.getElem?_eq_getElem hkl⟩
                                              have hbl := con_len hlowb.out hlowl kk
                                              have HSK := hide hs
                                              have HNEXT : Hid (pickK (conOf low) rr ext = pickL (conOf low) (if (conOf low (.later s)).length < (conOf low kk).length then .later s else kk) ((nx rr).drop (k + 1))) := by
                                                show _ = _
                                                have e : (nx rr)[k] = s := by rw [List.getElem?_eq_getElem hkl] at hs; injection hs
                                                rw [hpkk.out, List.drop_eq_getElem_cons hkl, pickL, if_neg hb0, e]
                                              have HLST := hide (LSt.start hB.out)
                                              obtain ⟨CK, hCK⟩ : ∃ CK, conOf low kk = CK := ⟨_, rfl⟩
                                              rw [hCK] at HLST HNEXT hb0 hbl ⊢
                                              have HCK := hide hCK
                                              clear hs hpkk hB hCK
                                              have hbp : 0 < CK.length := by omega
                                              clear hb0
                                              obtain ⟨i3, hi3, hz3, hs3, hb3⟩ := inf3
                                              go_wp2_with fail
                                              go_loopg [29, 30] low.length (fun f s29 s30 wx => ∃ j : Nat, s30 = .int .i64 (j : Nat) ∧ j ≤ low.length ∧ low.length - j ≤ f ∧ Hid (LSt w3 low pb (.slice (some ⟨g6, 0, none⟩) (nx rr).length c6) rr (.slice ba CK.length bc) CK s29 (partL low s j 1) wx))
                                              case atStart => exact ⟨0, rfl, by omega, by omega, by rw [partL_start]; exact HLST⟩
                                              case round =>
                                                as_aux_lemma =>
                                                  obtain ⟨j, rfl, hj, hfj, hL⟩ := hrel
                                                  by_cases hjl : j < low.length
                                                  · have hP := hide (@partL_hit low s j)
                                                    have hP2 := hide (fun t p => @partL_miss low s t j p)
                                                    have hP3 := hide (partL_next low s j)
                                                    have hPL := hide (partL_len hlowb.out s j)
                                                    have hATJ : Hid (∀ {wx : World} {v l}, LSt w3 low pb (.slice (some ⟨g6, 0, none⟩) (nx rr).length c6) rr (.slice ba CK.length bc) CK v l wx → ∃ g c, wx.cell? ⟨pb, j, none⟩ = some (.slice (some ⟨g, 0, none⟩) (nx (low.getD j [])).length c) ∧ (nx (low.getD j [])).length ≤ c ∧ ∀ p s, (nx (low.getD j []))[p]? = some s → wx.cell? ⟨g, p, none⟩ = some (.string (str s))) := fun h => h.base.parts.at hjl
                                                    have hnlj : (nx (low.getD j [])).length ≤ 2097153 := by
                                                      have h1 := nx_len _ (low.getD j []) (Nat.le_refl _)
                                                      have h2 := hlowb.out (low.getD j []) (by rw [List.getD_eq_getElem?_getD, List.getElem?_eq_getElem hjl]; exact List.getElem_mem hjl)
                                                      omega
                                                    have hnlp : 0 < (nx (low.getD j [])).length := by rw [nx_eq]; simp
                                                    generalize low.getD j [] = lj at hP hP2 hP3 hATJ hnlj hnlp
                                                    clear HLST
                                                    go_wp2_with fail
                                                    go_loopg [29, 31] (nx lj).length (fun f s29 s31 wx => ∃ p : Nat, s31 = .int .i64 (p : Nat) ∧ 1 ≤ p ∧ p ≤ (nx lj).length ∧ (nx lj).length - p ≤ f ∧ Hid (LSt w3 low pb (.slice (some ⟨g6, 0, none⟩) (nx rr).length c6) rr (.slice ba CK.length bc) CK s29 (partL low s j p) wx))
                                                    case atStart => exact ⟨1, rfl, by omega, by omega, by omega, hL⟩
                                                    case round =>
                                                      as_aux_lemma =>
                                                        obtain ⟨p, rfl, hp1, hp2, hfp, hLp⟩ := hrel
                                                        obtain ⟨gj, cj, kpj, hcj, hpj⟩ := hATJ.out hLp.out
                                                        clear hL
                                                        by_cases hpl : p < (nx lj).length
                                                        · obtain ⟨t, ht⟩ : ∃ t, (nx lj)[p]? = some t := ⟨_, List.getElem?_eq_getElem hpl⟩
                                                          have kt := hpj p t ht
                                                          have ks := hLp.out.base.subCell HSK.out
                                                          have HT := hide ht
                                                          have hpll := hPL.out p
                                                          clear hpj ht
                                                          by_cases heq : t = s
                                                          · subst heq
                                                            have hb : ((str t).toList == (str t).toList) = true := by simp
                                                            go_wp2_with fail
                                                            go_quiet (fail)
                                                            have HL3 := hide (hLp.out.ext0 (Ext.drewN wr nq))
                                                            clear hLp kt ks kpj
                                                            generalize wr.drewN nq = w7 at HL3 ⊢
                                                            go_wp2_with (at_builtin; refine wpList_append_one rfl _ _ 28 rfl 3 i3 _ 8 Yba.underlying28 hi3 hz3 hs3 hb3 rfl u29 _ rfl (HL3.out.row.ext (Ext.alloc _ _) (fun _ _ => id)) ⟨w7.heap.size, 0, none⟩ (.int .i64 (j : Nat)) rfl (new_cell _ _ _) rfl rfl (by rw [List.length_map]; unfold maxLen; omega) (by rw [List.length_map]; omega) ?_; intro v2 w8 hown2 hgrow2 hb2; have HL4 := hide (HL3.out.app j hown2 hgrow2 hb2.out); clear hown2 hgrow2 hb2)
                                                            go_roundg ((nx lj).length - (p + 1))
                                                            case measure => omega
                                                            case rel => exact ⟨p + 1, by go_num, by omega, by omega, by omega, by rw [hP.out p hp1 HT.out]; exact HL4⟩
                                                          · have hb : ((str t).toList == (str s).toList) = false := by rw [str_beq]; simpa using heq
                                                            have HEQ := hide heq
                                                            clear heq
                                                            go_wp2_with fail
                                                            go_quiet (fail)
                                                            go_wp2_with fail
                                                            go_roundg ((nx lj).length - (p + 1))
                                                            case measure => omega
                                                            case rel => exact ⟨p + 1, by go_num, by omega, by omega, by omega, by rw [hP2.out t p hp1 HT.out HEQ.out]; exact hLp.out.ext0 (Ext.drewN _ _)⟩
                                                        · have h1 := hP3.out p (by omega)
                                                          have HL2 : Hid (LSt w3 low pb (.slice (some ⟨g6, 0, none⟩) (nx rr).length c6) rr (.slice ba CK.length bc) CK u29 (partL low s (j + 1) 1) wr) := by rw [h1]; exact hLp
                                                          clear h1 hLp hpj
                                                          go_wp2_with fail
                                                          go_roundg (low.length - (j + 1))
                                                          case measure => omega
                                                          case rel => exact ⟨j + 1, by go_num, by omega, by omega, HL2⟩
                                                  · obtain rfl : j = low.length := by omega
                                                    rw [partL_end] at hL
                                                    have hcl := con_len hlowb.out hlowl (.later s)
                                                    obtain ⟨la, lc, hla⟩ := hL.out.row.form
                                                    rw [List.length_map] at hla
                                                    subst hla
                                                    clear HLST
                                                    by_cases hlt9 : (conOf low (.later s)).length < CK.length
                                                    · have HNX9 := HNEXT
                                                      rw [if_pos hlt9] at HNX9
                                                      clear HNEXT
                                                      go_wp2_with fail
                                                      go_roundg ((nx rr).length - (k + 1))
                                                      case measure => omega
                                                      case rel => exact ⟨k + 1, .later s, by go_num, by omega, by omega, by omega, HNX9, hL.out.take⟩
                                                    · have HNX9 := HNEXT
                                                      rw [if_neg hlt9] at HNX9
                                                      clear HNEXT
                                                      go_wp2_with fail
                                                      go_roundg ((nx rr).length - (k + 1))
                                                      case measure => omega
                                                      case rel => exact ⟨k + 1, kk, by go_num, by omega, by omega, by omega, HNX9, by rw [HCK.out]; exact hL.out.base⟩
                                          · have hkk : pickK (conOf low) rr ext = kk := by
                                              rw [hpkk.out, List.drop_of_length_le (by omega), pickL]
                                            rw [hkk] at HRH HRN ⊢
                                            have hE := hB.out.extW
                                            have HG1 := hide (HRH.out.ext hE)
                                            have HG2 := hide hB.out.row.holdsI
                                            have HG3 := hide (HVT.out.ext hE)
                                            have HG4 := hide (HLW.out.holds.ext hE)
                                            have HG5 := hide (HHH.out.ext (HOE.out.comp (HE3.out.comp hE)))
                                            have HG6 := hide (HOH.out.ext (HE3.out.comp hE))
                                            have HG7 := hide (HOE.out.comp (HE3.out.comp hE))
                                            have kx : wr.cell? ⟨xb, 1, none⟩ = some vt := hE.cell HXC.out id
                                            have hrn := HRN.out
                                            have hnil := HNIL.out
                                            have hbl := con_len hlowb.out hlowl kk
                                            have hq28 := fun w a n c n' c' => Lib.run_eql_slice_nil (P := Yba.prog) w 28 3 a n c n' c' Yba.underlying28
                                            have hq22 := fun w a n c n' c' => Lib.run_eql_slice_nil (P := Yba.prog) w 22 9 a n c n' c' Yba.underlying22
                                            clear hE hB HRH HRN HVT HLW HHH HOH HE3 HOE HNIL HXC hpkk
                                            have h10 := equalI_same HG1.out HG2.out hbl
                                            generalize (conOf low kk).length = nb at h10 hrn hbl ⊢
                                            by_cases hz : nb = 0
                                            · subst hz
                                              go_upto_region 68 with (go_at_call 10; refine h10.mono ?_; rintro e w8' ⟨rfl, q8, rfl⟩; have HH3 := hide (HG3.out.ext (Ext.drewN wr q8)); have HH4 := hide (HG4.out.ext (Ext.drewN wr q8)); have HH5 := hide (HG5.out.ext (Ext.drewN wr q8)); have HH6 := hide (HG6.out.ext (Ext.drewN wr q8)); have HH7 := hide (HG7.out.comp (Ext.drewN wr q8)); have kx8 : (wr.drewN q8).cell? ⟨xb, 1, none⟩ = some vt := kx; generalize wr.drewN q8 = w8 at HH3 HH4 HH5 HH6 HH7 kx8 ⊢; clear h10 HG1 HG2 HG3 HG4 HG5 HG6 HG7 kx)
                                              have h11 := equal_same HH3.out HH4.out hlowl
                                              go_upto_region 70 with (go_at_call 11; refine h11.mono ?_; rintro e w9' ⟨rfl, q9, rfl⟩; have HK5 := hide (HH5.out.ext (Ext.drewN w8 q9)); have HK6 := hide (HH6.out.ext (Ext.drewN w8 q9)); have HK7 := hide (HH7.out.comp (Ext.drewN w8 q9)); generalize w8.drewN q9 = w9 at HK5 HK6 HK7 ⊢; clear h11 HH3 HH4 HH5 HH6 HH7 kx8)
                                              have h12 := equal_same HK5.out HK6.out hl
                                              go_wp2_with (go_at_call 11; refine h12.mono ?_; rintro e w10 ⟨rfl, q10, rfl⟩)
                                              go_ret
                                              exact ⟨rfl, HK7.out.comp (Ext.drewN _ _)⟩
                                            · rw [decide_eq_false hz] at hrn
                                              go_upto_region 68 with (go_at_call 10; refine h10.mono ?_; rintro e w8' ⟨rfl, q8, rfl⟩; have HH3 := hide (HG3.out.ext (Ext.drewN wr q8)); have HH4 := hide (HG4.out.ext (Ext.drewN wr q8)); have HH5 := hide (HG5.out.ext (Ext.drewN wr q8)); have HH6 := hide (HG6.out.ext (Ext.drewN wr q8)); have HH7 := hide (HG7.out.comp (Ext.drewN wr q8)); have kx8 : (wr.drewN q8).cell? ⟨xb, 1, none⟩ = some vt := kx; generalize wr.drewN q8 = w8 at HH3 HH4 HH5 HH6 HH7 kx8 ⊢; clear h10 HG1 HG2 HG3 HG4 HG5 HG6 HG7 kx)
                                              have h11 := equal_same HH3.out HH4.out hlowl
                                              go_upto_region 70 with (go_at_call 11; refine h11.mono ?_; rintro e w9' ⟨rfl, q9, rfl⟩; have HK5 := hide (HH5.out.ext (Ext.drewN w8 q9)); have HK6 := hide (HH6.out.ext (Ext.drewN w8 q9)); have HK7 := hide (HH7.out.comp (Ext.drewN w8 q9)); generalize w8.drewN q9 = w9 at HK5 HK6 HK7 ⊢; clear h11 HH3 HH4 HH5 HH6 HH7 kx8)
                                              have h12 := equal_same HK5.out HK6.out hl
                                              go_wp2_with (go_at_call 11; refine h12.mono ?_; rintro e w10 ⟨rfl, q10, rfl⟩)
                                              go_ret
                                              exact ⟨rfl, HK7.out.comp (Ext.drewN _ _)⟩
end Go.Proofs.YbulkdtxaA
