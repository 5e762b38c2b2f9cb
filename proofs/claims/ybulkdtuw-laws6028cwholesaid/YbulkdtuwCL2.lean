import Derived.Test.YbulkdtuwCL1
import Derived.Test.YbulkdtuwCG4
import Derived.Test.YbulkdtuwCI1
namespace Go.Proofs.YbulkdtuwC
open Go.RowKit Go.Proofs.YbulkdtuwB RawMap

/-- the cells of one grant, from off on -/
def gcell (w : World) (b off : Nat) (e : Gt) : Prop :=
  w.cell? ⟨b, off, none⟩ = some (.int .u8 (e.d : Nat)) ∧ w.cell? ⟨b, off + 1, none⟩ = some (.bool e.g) ∧ w.cell? ⟨b, off + 2, none⟩ = some (.string e.t) ∧ w.cell? ⟨b, off + 3, none⟩ = some (.string e.k) ∧ w.cell? ⟨b, off + 4, none⟩ = some (.int .u64 (e.tx : Nat)) ∧ w.cell? ⟨b, off + 5, none⟩ = some (.int .u8 (e.m : Nat))
def GtOk (e : Gt) : Prop := e.d < 256 ∧ e.m < 256 ∧ e.tx < 18446744073709551616 ∧ e.t.size ≤ maxLen ∧ e.k.size ≤ maxLen
theorem gcell.ext {w w' : World} {b off : Nat} {e : Gt} (h : gcell w b off e) (x : Ext (fun _ => False) w w') : gcell w' b off e :=
  ⟨ecell x h.1, ecell x h.2.1, ecell x h.2.2.1, ecell x h.2.2.2.1, ecell x h.2.2.2.2.1, ecell x h.2.2.2.2.2⟩
/-- the grants that came in -/
def GIn (w : World) (a0 : Option Addr) (G : List Gt) : Prop := (∀ e ∈ G, GtOk e) ∧ (G ≠ [] → ∃ b off, a0 = some ⟨b, off, none⟩ ∧ ∀ i (hi : i < G.length), gcell w b (off + i * 6) G[i])
def cells6 (e : Gt) : Array Value := #[.int .u8 (e.d : Nat), .bool e.g, .string e.t, .string e.k, .int .u64 (e.tx : Nat), .int .u8 (e.m : Nat)]
/-- the cells of one intent -/
def icell (w : World) (b off : Nat) (e : Gt) : Prop :=
  w.cell? ⟨b, off, none⟩ = some (.int .u8 (e.d : Nat)) ∧ w.cell? ⟨b, off + 1, none⟩ = some (.bool e.g) ∧ w.cell? ⟨b, off + 2, none⟩ = some (.string e.t) ∧ w.cell? ⟨b, off + 3, none⟩ = some (.string e.k) ∧ w.cell? ⟨b, off + 4, none⟩ = some (.int .u8 (e.m : Nat))
theorem icell.ext {w w' : World} {b off : Nat} {e : Gt} (h : icell w b off e) (x : Ext (fun _ => False) w w') : icell w' b off e :=
  ⟨ecell x h.1, ecell x h.2.1, ecell x h.2.2.1, ecell x h.2.2.2.1, ecell x h.2.2.2.2⟩
def IIn (w : World) (a0 : Option Addr) (I : List Gt) : Prop := (∀ e ∈ I, GtOk e) ∧ (I ≠ [] → ∃ b off, a0 = some ⟨b, off, none⟩ ∧ ∀ i (hi : i < I.length), icell w b (off + i * 5) I[i])
theorem inf93 : ∃ i, Yba.prog.info? 93 = some i ∧ i.zero = some (.agg #[.int .u8 0, .int .u8 0, .int .u8 0, .string ⟨#[]⟩, .string ⟨#[]⟩, .int .u8 0]) ∧ i.size = 6 ∧ i.bytes = 48 := ⟨Yba.t93, by kernel_rfl, by kernel_rfl, by kernel_rfl, by kernel_rfl⟩
theorem Rs.fitOf (d : Nat) (g : Bool) {t k : ByteArray} (ht : t.size ≤ maxLen) (hk : k.size ≤ maxLen) : (rs d g t k).fit := by
  unfold rs
  by_cases h0 : d % 3 = 0
  · rw [if_pos h0]; trivial
  · rw [if_neg h0]
    by_cases h1 : d % 3 = 1
    · rw [if_pos h1]; exact ht
    · rw [if_neg h1]; exact ⟨ht, hk⟩
theorem firstG_hit {G : List Gt} {r : Rs} {tx i : Nat} (hi : i < G.length) (hno : ∀ j (hj : j < G.length), j < i → ¬ (G[j].tx = tx ∧ G[j].r = r)) (he : G[i].tx = tx ∧ G[i].r = r) : firstG G r tx = some G[i].m := by
  unfold firstG
  have : G.find? (fun e => decide (e.tx = tx ∧ e.r = r)) = some G[i] := by
    rw [List.find?_eq_some_iff_getElem]
    refine ⟨by simpa using he, i, hi, rfl, fun j hj => ?_⟩
    have h := hno j (by omega) hj
    by_cases h1 : G[j].tx = tx
    · simp [h1]; exact fun h2 => h ⟨h1, h2⟩
    · simp [h1]
  rw [this]; rfl
theorem firstG_none {G : List Gt} {r : Rs} {tx : Nat} (hno : ∀ j (hj : j < G.length), ¬ (G[j].tx = tx ∧ G[j].r = r)) : firstG G r tx = none := by
  unfold firstG
  rw [Option.map_eq_none_iff, List.find?_eq_none]
  intro x hx
  obtain ⟨j, hj, rfl⟩ := List.getElem_of_mem hx
  simpa using hno j hj
theorem tsc {w : World} {mb : Nat} {NB : Nd → Option Nat} {L : Rs → List (Nat × Nat)} {cnt tb tx : Nat} {v : Value} {l : List (Rs × Nat)} {wr : World} (h : TSt w mb NB L cnt tb tx v l wr) {ib : Nat} {e : Gt} (hb : Blk wr ib #[.int .u8 (e.d : Nat), .bool e.g, .string e.t, .string e.k, .int .u8 (e.m : Nat)] 91) :
    wr.cell? ⟨tb, 2, none⟩ = some v ∧ wr.cell? ⟨ib, 0, none⟩ = some (.int .u8 (e.d : Nat)) ∧ wr.cell? ⟨ib, 1, none⟩ = some (.bool e.g) ∧ wr.cell? ⟨ib, 2, none⟩ = some (.string e.t) ∧ wr.cell? ⟨ib, 3, none⟩ = some (.string e.k) ∧ wr.cell? ⟨ib, 4, none⟩ = some (.int .u8 (e.m : Nat)) :=
  ⟨h.2.1.cell 2, hb.cell 0, hb.cell 1, hb.cell 2, hb.cell 3, hb.cell 4⟩
theorem rs_fit {e : Gt} (h : GtOk e) : e.r.fit := by
  unfold Gt.r rs
  by_cases h0 : e.d % 3 = 0
  · rw [if_pos h0]; trivial
  · rw [if_neg h0]
    by_cases h1 : e.d % 3 = 1
    · rw [if_pos h1]; exact h.2.2.2.1
    · rw [if_neg h1]; exact ⟨h.2.2.2.1, h.2.2.2.2⟩
theorem cells6_at {w : World} {q : Nat} {e : Gt} (h : Blk w q (cells6 e) 81) : w.cell? ⟨q, 0, none⟩ = some (.int .u8 (e.d : Nat)) ∧ w.cell? ⟨q, 1, none⟩ = some (.bool e.g) ∧ w.cell? ⟨q, 2, none⟩ = some (.string e.t) ∧ w.cell? ⟨q, 3, none⟩ = some (.string e.k) ∧ w.cell? ⟨q, 4, none⟩ = some (.int .u64 (e.tx : Nat)) ∧ w.cell? ⟨q, 5, none⟩ = some (.int .u8 (e.m : Nat)) := ⟨h.cell 0, h.cell 1, h.cell 2, h.cell 3, h.cell 4, h.cell 5⟩

set_option maxRecDepth 100000 in
set_option maxHeartbeats 40000000 in
theorem lawC_any {w : World} (tx : Nat) (htx : tx < 18446744073709551616) (hs : Bool) (d : Nat) (hd : d < 256) (gap : Bool) (t k : ByteArray) (ht : t.size ≤ maxLen) (hk : k.size ≤ maxLen) (ia : Option Addr) (I : List Gt) (ic : Nat) (hil : I.length ≤ 1024) (hI : IIn w ia I) (ga : Option Addr) (G : List Gt) (gc : Nat) (hGl : G.length ≤ 1024) (hG : GIn w ga G) :
    Calls Yba.prog 5 #[.int .u64 (tx : Nat), .bool hs, .int .u8 (d : Nat), .bool gap, .string t, .string k,   .slice ia I.length ic, .slice ga G.length gc] w fun e w' => e = .returned (.bool true) ∧ Ext (fun _ => False) w w' := by
  have HG := hide hG
  have HI := hide hI
  clear hG hI
  have hb79 := build79
  have hx79 := box79
  have hMs := hide (Mg.start w)
  go_enter Yba.func5, Yba.ntmps5
  go_wp2
  generalize w.alloc (.cells Yba.zeroCells79 79) = w1 at hMs ⊢
  generalize hmb : w.heap.size = mb at hMs ⊢
  clear hb79 hx79
  go_loopg [48] G.length (fun f s48 wx => ∃ i : Nat, s48 = .int .i64 (i : Nat) ∧ i ≤ G.length ∧ G.length - i ≤ f ∧ Hid (∃ NB, Mg (fun _ _ _ => False) w mb NB (LL G i) (fun _ => none) (3 * i) wx))
  case atStart => exact ⟨0, rfl, by omega, by omega, ⟨_, hMs.out⟩⟩
  case round =>
    obtain ⟨i, rfl, hi, hf, hM⟩ := hrel
    by_cases hlt : i < G.length
    · obtain ⟨b, off, rfl, hc⟩ := HG.out.2 (fun e => by rw [e] at hlt; simp at hlt)
      obtain ⟨NB, hM0⟩ := hM.out
      have HC : Hid (∀ (i : Nat) (hi : i < G.length), gcell w b (off + i * 6) G[i]) := hc
      have hci := (hc i hlt).ext hM0.ext
      have hok := HG.out.1 _ (List.getElem_mem hlt)
      have hgd : G.getD i default = G[i] := by rw [List.getD_eq_getElem?_getD, List.getElem?_eq_getElem hlt]; rfl
      obtain ⟨e, he⟩ : ∃ e, G[i] = e := ⟨_, rfl⟩
      rw [he] at hci hok hgd
      obtain ⟨c0, c1, c2, c3, c4, c5⟩ := hci
      have HOK := hide hok
      have HGD := hide hgd
      have HB := hide (Blk.new wr (cells6 e) 81)
      have HM := hide (hM0.ext0 (Ext.alloc wr (.cells (cells6 e) 81)))
      have HCL : Hid (cells6 e = #[.int .u8 (e.d : Nat), .bool e.g, .string e.t, .string e.k, .int .u64 (e.tx : Nat), .int .u8 (e.m : Nat)]) := rfl
      have hmd := hok.1
      have hmm8 := hok.2.1
      have hmt := hok.2.2.1
      clear hok hgd he hM hM0 hc
      go_wp2_with fail
      rw [← HCL.out]
      generalize wr.alloc (.cells (cells6 e) 81) = W1 at HB HM ⊢
      generalize wr.heap.size = gb at HB ⊢
      clear c0 c1 c2 c3 c4 c5
      go_loopg [20, 56] i (fun f s20 s56 wy => ∃ j : Nat, s20 = .bool false ∧ s56 = .int .i64 (j : Nat) ∧ j ≤ i ∧ i - j ≤ f ∧ Hid (Ext (fun _ => False) W1 wy) ∧ Hid (∀ j', j' < j → ¬ ((G.getD j' default).tx = e.tx ∧ (G.getD j' default).r = e.r)))
      case atStart => exact ⟨0, rfl, rfl, by omega, by omega, erefl _, fun j h => absurd h (by omega)⟩
      case round =>
        obtain ⟨j, rfl, rfl, hj, hfj, hE, hno⟩ := hrel
        by_cases hjl : j < i
        · have hjG : j < G.length := by omega
          have hcj := (HC.out j hjG).ext (ecomp HM.out.ext hE.out)
          have hokj := HG.out.1 _ (List.getElem_mem hjG)
          have hgj : G.getD j default = G[j] := by rw [List.getD_eq_getElem?_getD, List.getElem?_eq_getElem hjG]; rfl
          obtain ⟨h, hh⟩ : ∃ h, G[j] = h := ⟨_, rfl⟩
          rw [hh] at hcj hokj hgj
          obtain ⟨d0, d1, d2, d3, d4, d5⟩ := hcj
          have hB2 := (HB.out.ext hE.out id).alloc (.cells #[.int .u8 (h.d : Nat), .bool h.g, .string h.t, .string h.k, .int .u64 (h.tx : Nat), .int .u8 (h.m : Nat)] 81)
          obtain ⟨e0, e1, e2, e3, e4, e5⟩ := cells6_at hB2
          have hsm := fun w => same_any e.d h.d hmd hokj.1 e.g h.g e.t e.k h.t h.k w
          have HGJ := hide hgj
          have hjd := hokj.1
          have hjt := hokj.2.2.1
          clear hokj hgj hh hB2
          by_cases hte : h.tx = e.tx
          · rw [hte] at d4 e0 e1 e2 e3 e4 e5
            by_cases hre : e.r = h.r
            · have HDUP : Hid (dupAt G i) := ⟨j, hjl, by rw [HGJ.out, HGD.out]; exact hte, by rw [HGJ.out, HGD.out]; exact hre.symm⟩
              rw [show rs e.d e.g e.t e.k = rs h.d h.g h.t h.k from hre, decide_eq_true rfl] at hsm
              clear hte hre
              go_wp2_with (go_at_call 12; refine (hsm _).mono ?_; rintro e' w' ⟨rfl, rfl⟩)
              go_roundg (G.length - (i + 1))
              case measure => omega
              case rel => exact ⟨i + 1, by go_num, by omega, by omega, ⟨NB, by rw [LL_dup HDUP.out]; exact (HM.out.ext0 (ecomp hE.out (Ext.alloc _ _))).up (by omega)⟩⟩
            · rw [decide_eq_false (show ¬ rs e.d e.g e.t e.k = rs h.d h.g h.t h.k from hre)] at hsm
              have HRE := hide hre
              clear hte hre
              go_wp2_with (go_at_call 12; refine (hsm _).mono ?_; rintro e' w' ⟨rfl, rfl⟩)
              go_roundg (i - (j + 1))
              case measure => omega
              case rel =>
                refine ⟨j + 1, rfl, by go_num, by omega, by omega, ecomp hE.out (Ext.alloc _ _), fun j' hj' hh => ?_⟩
                rcases Nat.lt_or_eq_of_le (Nat.le_of_lt_succ hj') with h9 | h9
                · exact hno.out j' h9 hh
                · subst h9; rw [HGJ.out] at hh; exact HRE.out hh.2.symm
          · have htei : ¬ ((h.tx : Nat) : Int) = ((e.tx : Nat) : Int) := by omega
            have HTE := hide hte
            clear hte hsm
            go_wp2_with fail
            go_roundg (i - (j + 1))
            case measure => omega
            case rel =>
              refine ⟨j + 1, rfl, by go_num, by omega, by omega, ecomp hE.out (Ext.alloc _ _), fun j' hj' hh => ?_⟩
              rcases Nat.lt_or_eq_of_le (Nat.le_of_lt_succ hj') with h9 | h9
              · exact hno.out j' h9 hh
              · subst h9; rw [HGJ.out] at hh; exact HTE.out hh.1
        · have HND : Hid (¬ dupAt G i) := fun ⟨j', hj', h1, h2⟩ => hno.out j' (by omega) (by rw [HGD.out] at h1 h2; exact ⟨h1, h2⟩)
          have HM2 := hide ((HM.out.ext0 hE.out).addX (HB.out.ext hE.out id) (by decide))
          have hcg := cells6_at (HB.out.ext hE.out id)
          obtain ⟨e0, e1, e2, e3, e4, e5⟩ := hcg
          have hres := fun w => res_any e.d hmd e.g e.t e.k w HOK.out.2.2.2.1 HOK.out.2.2.2.2
          have HRS := hide (rs_fit HOK.out)
          clear HM HB hno
          go_upto_region 19 with (first | (go_at_call 14; refine (hres _).mono ?_; rintro e' w2 ⟨rfl, hx2⟩; have hent := entry_any (HM2.out.ext0 hx2) e.r HRS.out (by unfold maxLen; omega); clear hx2) | (go_at_call 13; refine hent.mono ?_; rintro e' w3 ⟨NB3, eb, rfl, hM3, hat3⟩; have HM3 := hide hM3; have HAT := hide hat3; clear hM3 hat3 hent))
          clear e0 e1 e2 e3 e4 e5 HM2 hres
          obtain ⟨arr, ty, hBe, hs8, hg0, hgi, hg7, hgn⟩ := HM3.out.gr HAT.out
          have c0 : w3.cell? ⟨eb, 0, none⟩ = some (.int .u8 (min 3 (LL G i e.r).length : Nat)) := (hBe.cell 0).trans hg0
          have HXB : Hid (Blk w3 gb (cells6 e) 81) := (HM3.out.extra gb (cells6 e) 81 (.inr ⟨rfl, rfl, rfl⟩)).1
          have HNEW : Hid (LL G (i + 1) = setL (LL G i) e.r (e.tx, e.m)) := by show _ = _; rw [LL_new HND.out, HGD.out]
          have HFR : Hid (∀ x ∈ LL G i e.r, x.1 ≠ e.tx) := by have h := LL_fresh HND.out; rw [HGD.out] at h; exact h
          by_cases hn3 : (LL G i e.r).length < 3
          · obtain ⟨n, hnn⟩ : ∃ n, (LL G i e.r).length = n := ⟨_, rfl⟩
            have hn3' : n < 3 := by omega
            have hn3i : ((n : Nat) : Int) < 3 := by omega
            have hn0i : (0 : Int) ≤ ((n : Nat) : Int) := by omega
            rw [show min 3 (LL G i e.r).length = n by omega] at c0
            have HNN := hide hnn
            have hx1 : arr[1 + n]? ≠ none := by intro hh; rw [Array.getElem?_eq_none_iff] at hh; omega
            obtain ⟨x1, hx1⟩ : ∃ x, arr[1 + n]? = some x := by cases hq : arr[1 + n]? with | none => exact absurd hq hx1 | some x => exact ⟨x, rfl⟩
            have a0 : w3.drew.cell? ⟨eb, 0, none⟩ = some (.int .u8 (n : Nat)) := c0
            have a1 : w3.drew.cell? ⟨eb, 1 + n, none⟩ = some x1 := (hBe.cell _).trans hx1
            have a2 : w3.drew.frozen? ⟨eb, 1 + n, none⟩ = false := hBe.frozen _
            have a5 : w3.drew.cell? ⟨gb, 5, none⟩ = some (.int .u8 (e.m : Nat)) := (cells6_at HXB.out).2.2.2.2.2
            have HM4 := hide ((HM3.out.ext0 (Ext.drewN w3 1)).gset HAT.out (i := 1 + n) (by omega) (.int .u8 (e.m : Nat)) (fun arr hg => hg.free hn3 (.inl (by rw [hnn])) _))
            obtain ⟨ar4, ty4, hB4, hs84, hg04, hgi4, _, _⟩ := HM4.out.gr HAT.out
            have HX4 : Hid (Blk (w3.drew.setCell ⟨eb, 1 + n, none⟩ (.int .u8 (e.m : Nat))) gb (cells6 e) 81) := (HM4.out.extra gb (cells6 e) 81 (.inr ⟨rfl, rfl, rfl⟩)).1
            have b0 : (w3.drew.setCell ⟨eb, 1 + n, none⟩ (.int .u8 (e.m : Nat))).cell? ⟨eb, 0, none⟩ = some (.int .u8 (n : Nat)) := by have h9 := hB4.cell 0; rw [hg04, hnn, show min 3 n = n by omega] at h9; exact h9
            have b5 : (w3.drew.setCell ⟨eb, 1 + n, none⟩ (.int .u8 (e.m : Nat))).cell? ⟨gb, 5, none⟩ = some (.int .u8 (e.m : Nat)) := (cells6_at HX4.out).2.2.2.2.2
            have bm : Hid ((w3.drew.setCell ⟨eb, 1 + n, none⟩ (.int .u8 (e.m : Nat))).cell? ⟨eb, 1 + n, none⟩ = some (.int .u8 (e.m : Nat))) := by
              have hb : Blk w3.drew eb arr ty := hBe
              show _ = _
              rw [(hb.same (1 + n) (.int .u8 (e.m : Nat))).cell, Array.getElem?_setIfInBounds, if_pos rfl, if_pos (by omega)]
            clear hx1 hBe hs8 hg0 hgi hg7 hgn hnn hB4 hs84 hg04 hgi4
            go_wp2_with fail
            go_region_held3 (fun w' => w'.cell? ⟨eb, 0, none⟩ = some (.int .u8 (n : Nat)) ∧ w'.cell? ⟨gb, 5, none⟩ = some (.int .u8 (e.m : Nat))) (exact ⟨by assumption, by assumption⟩) (fail)
            have HM5 : Hid (Mg (fun q' c' ty' => False ∨ q' = gb ∧ c' = cells6 e ∧ ty' = 81) w mb NB3 (LL G i) (fun _ => none) (3 * i + 1 + 1) (w3.setCell ⟨eb, 1 + n, none⟩ (.int .u8 (e.m : Nat))).drew) := HM4.out
            have b0' : (w3.setCell ⟨eb, 1 + n, none⟩ (.int .u8 (e.m : Nat))).drew.cell? ⟨eb, 0, none⟩ = some (.int .u8 (n : Nat)) := b0
            have HBM : Hid ((w3.setCell ⟨eb, 1 + n, none⟩ (.int .u8 (e.m : Nat))).drew.cell? ⟨eb, 1 + n, none⟩ = some (.int .u8 (e.m : Nat))) := bm.out
            clear HM4 HM3 HXB HX4 b0 b5 bm a0 a1 a2 a5 c0
            generalize (w3.setCell ⟨eb, 1 + n, none⟩ (.int .u8 (e.m : Nat))).drew = w4 at HM5 b0' HBM ⊢
            obtain ⟨ar5, ty5, hB5, hs85, hg05, hgi5, _, _⟩ := HM5.out.gr HAT.out
            have hx4 : arr[4 + n]? = arr[4 + n]? := rfl
            obtain ⟨x4, hx4⟩ : ∃ x, ar5[4 + n]? = some x := ⟨_, Array.getElem?_eq_getElem (by omega)⟩
            have a0 : w4.drew.cell? ⟨eb, 0, none⟩ = some (.int .u8 (n : Nat)) := b0'
            have a1 : w4.drew.cell? ⟨eb, 4 + n, none⟩ = some x4 := (hB5.cell _).trans hx4
            have a2 : w4.drew.frozen? ⟨eb, 4 + n, none⟩ = false := hB5.frozen _
            have a4 : w4.drew.cell? ⟨gb, 4, none⟩ = some (.int .u64 (e.tx : Nat)) := (cells6_at (HM5.out.extra gb (cells6 e) 81 (.inr ⟨rfl, rfl, rfl⟩)).1).2.2.2.2.1
            have HM6 := hide ((HM5.out.ext0 (Ext.drewN w4 1)).gset HAT.out (i := 4 + n) (by omega) (.int .u64 (e.tx : Nat)) (fun arr hg => hg.free hn3 (.inr (by rw [HNN.out])) _))
            obtain ⟨ar6, ty6, hB6, hs86, hg06, hgi6, _, _⟩ := HM6.out.gr HAT.out
            have b0 : (w4.drew.setCell ⟨eb, 4 + n, none⟩ (.int .u64 (e.tx : Nat))).cell? ⟨eb, 0, none⟩ = some (.int .u8 (n : Nat)) := by have h9 := hB6.cell 0; rw [hg06, HNN.out, show min 3 n = n by omega] at h9; exact h9
            have b4 : (w4.drew.setCell ⟨eb, 4 + n, none⟩ (.int .u64 (e.tx : Nat))).cell? ⟨gb, 4, none⟩ = some (.int .u64 (e.tx : Nat)) := (cells6_at (HM6.out.extra gb (cells6 e) 81 (.inr ⟨rfl, rfl, rfl⟩)).1).2.2.2.2.1
            have hbd : Blk w4.drew eb ar5 ty5 := hB5
            have HB6t : Hid ((w4.drew.setCell ⟨eb, 4 + n, none⟩ (.int .u64 (e.tx : Nat))).cell? ⟨eb, 4 + n, none⟩ = some (.int .u64 (e.tx : Nat))) := by
              show _ = _
              rw [(hbd.same (4 + n) (.int .u64 (e.tx : Nat))).cell, Array.getElem?_setIfInBounds, if_pos rfl, if_pos (by omega)]
            have HB6m : Hid ((w4.drew.setCell ⟨eb, 4 + n, none⟩ (.int .u64 (e.tx : Nat))).cell? ⟨eb, 1 + n, none⟩ = some (.int .u8 (e.m : Nat))) := by
              show _ = _
              rw [(hbd.same (4 + n) (.int .u64 (e.tx : Nat))).cell, Array.getElem?_setIfInBounds_ne (by omega), ← hB5.cell]
              exact HBM.out
            have f0 : (w4.drew.setCell ⟨eb, 4 + n, none⟩ (.int .u64 (e.tx : Nat))).frozen? ⟨eb, 0, none⟩ = false := hB6.frozen 0
            clear hx4 hB5 hs85 hg05 hgi5 hB6 hs86 hg06 hgi6 hbd HBM b0'
            go_wp2_with fail
            go_region_held3 (fun w' => w'.cell? ⟨eb, 0, none⟩ = some (.int .u8 (n : Nat)) ∧ w'.cell? ⟨gb, 4, none⟩ = some (.int .u64 (e.tx : Nat))) (exact ⟨by assumption, by assumption⟩) (fail)
            have HM7 : Hid (Mg (fun q' c' ty' => False ∨ q' = gb ∧ c' = cells6 e ∧ ty' = 81) w mb NB3 (LL G i) (fun _ => none) (3 * i + 1 + 1) (w4.setCell ⟨eb, 4 + n, none⟩ (.int .u64 (e.tx : Nat))).drew) := HM6.out
            have z0 : (w4.setCell ⟨eb, 4 + n, none⟩ (.int .u64 (e.tx : Nat))).drew.cell? ⟨eb, 0, none⟩ = some (.int .u8 (n : Nat)) := b0
            have zf : (w4.setCell ⟨eb, 4 + n, none⟩ (.int .u64 (e.tx : Nat))).drew.frozen? ⟨eb, 0, none⟩ = false := f0
            have HZ4 : Hid ((w4.setCell ⟨eb, 4 + n, none⟩ (.int .u64 (e.tx : Nat))).drew.cell? ⟨eb, 4 + n, none⟩ = some (.int .u64 (e.tx : Nat))) := HB6t.out
            have HZ1 : Hid ((w4.setCell ⟨eb, 4 + n, none⟩ (.int .u64 (e.tx : Nat))).drew.cell? ⟨eb, 1 + n, none⟩ = some (.int .u8 (e.m : Nat))) := HB6m.out
            clear HM5 HM6 b0 b4 f0 HB6t HB6m a0 a1 a2 a4
            generalize (w4.setCell ⟨eb, 4 + n, none⟩ (.int .u64 (e.tx : Nat))).drew = w5 at HM7 z0 zf HZ4 HZ1 ⊢
            go_wp2_with fail
            go_roundg (G.length - (i + 1))
            case measure => omega
            case rel => exact ⟨i + 1, by go_num, by omega, by omega, ⟨NB3, by rw [HNEW.out]; exact ((HM7.out.ginc HAT.out hn3 (by rw [HNN.out]; exact HZ4.out) (by rw [HNN.out]; exact HZ1.out) (by rw [HNN.out]; rfl)).dropX).up (by omega)⟩⟩
          · have c3 : w3.cell? ⟨eb, 0, none⟩ = some (.int .u8 (3 : Nat)) := by rw [c0, show min 3 (LL G i e.r).length = 3 by omega]
            have c7 : w3.cell? ⟨eb, 7, none⟩ = some (.map (NB3 (.more e.r))) := (hBe.cell 7).trans hg7
            have hq43 := eqm Yba.underlying43
            have hmkm := @run_makeMap Yba.prog
            clear c0 hBe hs8 hg0 hgi hg7 hgn HXB
            go_upto_if 139 with fail
            go_cut [] (fun wx => Hid (∃ NB4 mo, NB4 (.more e.r) = some mo ∧ At mb NB4 e.r eb ∧ Mg (fun q' c' ty' => False ∨ q' = gb ∧ c' = cells6 e ∧ ty' = 81) w mb NB4 (LL G i) (fun _ => none) (3 * i + 1 + 1) wx))
            case first =>
              cases hmo : NB3 (.more e.r) with
              | some mo =>
                have HN := hide hmo
                clear hmo
                go_wp2_with fail
                go_meet
                case rel => exact ⟨NB3, mo, HN.out, HAT.out, HM3.out⟩
              | none =>
                have HN := hide hmo
                rw [hmo] at c7
                clear hmo
                obtain ⟨arr, ty, hBe, _, _, _, hg7, _⟩ := (HM3.out.ext0 (Ext.alloc w3 (.map #[] 0))).gr HAT.out
                have m7 : (w3.alloc (.map #[] 0)).cell? ⟨eb, 7, none⟩ = some (.map (NB3 (.more e.r))) := (hBe.cell 7).trans hg7
                have mf : (w3.alloc (.map #[] 0)).frozen? ⟨eb, 7, none⟩ = false := hBe.frozen 7
                clear hBe hg7
                go_wp2_with fail
                go_meet
                case rel =>
                  refine ⟨_, _, setN_same NB3 (.more e.r) w3.heap.size, ?_, HM3.out.mkMore HAT.out HN.out⟩
                  rcases HAT.out with h9 | ⟨h9, h10⟩
                  · exact .inl h9
                  · exact .inr ⟨h9, (setN_other _ _ (by simp)).trans h10⟩
            case rest =>
              clear HM3 HAT c3 c7 hq43 hmkm
              obtain ⟨NB4, mo, hn4, hat4, hM4⟩ := hcut.out
              have hM5 := hM4.ext0 (Ext.drewN wc 1)
              obtain ⟨w6, hrun, hM6, _⟩ := hM5.putMore (m := e.m) hat4 hn4 (by omega) hmt HFR.out (by unfold maxLen; omega)
              obtain ⟨ar5, ty5, hB5, _, _, _, hg75, _⟩ := hM5.gr hat4
              obtain ⟨ar6, ty6, hB6, _, _, _, hg76, _⟩ := hM6.gr hat4
              have a7 : wc.drew.cell? ⟨eb, 7, none⟩ = some (.map (some mo)) := by rw [← hn4]; exact (hB5.cell 7).trans hg75
              have b7 : w6.cell? ⟨eb, 7, none⟩ = some (.map (some mo)) := by rw [← hn4]; exact (hB6.cell 7).trans hg76
              have xa := cells6_at (hM5.extra gb (cells6 e) 81 (.inr ⟨rfl, rfl, rfl⟩)).1
              have xb := cells6_at (hM6.extra gb (cells6 e) 81 (.inr ⟨rfl, rfl, rfl⟩)).1
              have a4 : wc.drew.cell? ⟨gb, 4, none⟩ = some (.int .u64 (e.tx : Nat)) := xa.2.2.2.2.1
              have a5 : wc.drew.cell? ⟨gb, 5, none⟩ = some (.int .u8 (e.m : Nat)) := xa.2.2.2.2.2
              have b4 : w6.cell? ⟨gb, 4, none⟩ = some (.int .u64 (e.tx : Nat)) := xb.2.2.2.2.1
              have b5 : w6.cell? ⟨gb, 5, none⟩ = some (.int .u8 (e.m : Nat)) := xb.2.2.2.2.2
              have hrun' : (Instr.mapUpdate 43 (.map (some mo)) (.int .u64 (e.tx : Nat)) (.int .u8 (e.m : Nat))).run Yba.prog wc.drew = .ok () w6 := hrun
              have HM6 := hide hM6
              clear hcut hM4 hM5 hM6 hB5 hB6 hg75 hg76 xa xb hn4 hat4 hrun
              go_wp2_with fail
              go_region_held3 (fun w' => w'.cell? ⟨eb, 7, none⟩ = some (.map (some mo)) ∧ w'.cell? ⟨gb, 4, none⟩ = some (.int .u64 (e.tx : Nat)) ∧ w'.cell? ⟨gb, 5, none⟩ = some (.int .u8 (e.m : Nat))) (exact ⟨by assumption, by assumption, by assumption⟩) (fail)
              all_goals
                go_wp2_with fail
                go_roundg (G.length - (i + 1))
                case measure => omega
                case rel => exact ⟨i + 1, by go_num, by omega, by omega, ⟨NB4, by rw [HNEW.out]; exact (HM6.out.dropX).up (by omega)⟩⟩
    · obtain rfl : i = G.length := by omega
      obtain ⟨NB, hM0⟩ := hM.out
      have HM := hide hM0
      clear hM hM0
      have hres := fun w => res_any d hd gap t k w ht hk
      cases hs with
      | false =>
        go_wp2_with (first | (go_at_call 14; refine (hres _).mono ?_; rintro e' w2 ⟨rfl, hx2⟩; have hHN := heldN_any (HM.out.ext0 hx2) tx htx (rs d gap t k) rfl; have HX2 := hide (ecomp HM.out.ext hx2); clear hx2) | (go_at_call 16; refine hHN.mono ?_; rintro e' w3 ⟨rfl, hx3⟩; have HX3 := hide (ecomp HX2.out hx3); clear hx3))
        go_ret
        exact ⟨rfl, HX3.out⟩
      | true =>
        go_wp2_with fail
        have HT0 : Hid (TSt w mb NB (LL G G.length) (3 * G.length) wr.heap.size tx (.slice none 0 0) [] (wr.alloc (.cells #[.int .u64 (tx : Nat), .slice none 0 0, .slice none 0 0, .pointer none, .int .i64 0, .pointer none] 89))) := ⟨HM.out.ext0 (Ext.alloc _ _), Blk.new _ _ _, HM.out.ext.size, by simp [flat], .inl ⟨rfl, rfl⟩⟩
        generalize wr.alloc (.cells #[.int .u64 (tx : Nat), .slice none 0 0, .slice none 0 0, .pointer none, .int .i64 0, .pointer none] 89) = w2 at HT0 ⊢
        generalize wr.heap.size = tb at HT0 ⊢
        clear HM hMs
        go_loopg [159] I.length (fun f s159 wx => ∃ i : Nat, s159 = .int .i64 (i : Nat) ∧ i ≤ I.length ∧ I.length - i ≤ f ∧ Hid (∃ v, TSt w mb NB (LL G G.length) (3 * G.length) tb tx v ((I.take i).map (fun e => (e.r, e.m))) wx))
        case atStart => exact ⟨0, rfl, by omega, by omega, ⟨_, HT0.out⟩⟩
        case round =>
          obtain ⟨i, rfl, hi, hf, hT⟩ := hrel
          by_cases hlt : i < I.length
          · obtain ⟨b, off, rfl, hc⟩ := HI.out.2 (fun e => by rw [e] at hlt; simp at hlt)
            obtain ⟨v, hT0⟩ := hT.out
            have hci := (hc i hlt).ext hT0.1.ext
            have hok := HI.out.1 _ (List.getElem_mem hlt)
            have hnx : (I.take (i + 1)).map (fun e => (e.r, e.m)) = (I.take i).map (fun e => (e.r, e.m)) ++ [(I[i].r, I[i].m)] := by rw [List.take_succ_eq_append_getElem hlt, List.map_append]; rfl
            obtain ⟨e, he⟩ : ∃ e, I[i] = e := ⟨_, rfl⟩
            rw [he] at hci hok hnx
            obtain ⟨c0, c1, c2, c3, c4⟩ := hci
            have HNX := hide hnx
            have HIB := hide (Blk.new wr #[.int .u8 (e.d : Nat), .bool e.g, .string e.t, .string e.k, .int .u8 (e.m : Nat)] 91)
            have HT1 := hide (hT0.ext (Ext.alloc wr (.cells #[.int .u8 (e.d : Nat), .bool e.g, .string e.t, .string e.k, .int .u8 (e.m : Nat)] 91)))
            have hrese := fun w => res_any e.d hok.1 e.g e.t e.k w hok.2.2.2.1 hok.2.2.2.2
            obtain ⟨Z0, Z1, Z2, Z3, Z4, hz⟩ := resC_form (rs e.d e.g e.t e.k)
            simp only [hz] at hrese
            have HEL : Hid (el6 (e.r, e.m) = [.int .u8 Z0, .int .u8 Z1, .int .u8 Z2, .string Z3, .string Z4, .int .u8 (e.m : Nat)]) := by
              show (resC (rs e.d e.g e.t e.k)).toList ++ [.int .u8 (e.m : Nat)] = _
              rw [hz]; rfl
            obtain ⟨i93, hi93, hz93, hs93, hb93⟩ := inf93
            clear hz
            have hll : ((I.take i).map (fun e => (e.r, e.m))).length ≤ 1024 := by simp; omega
            generalize (I.take i).map (fun e => (e.r, e.m)) = ll at HT1 HNX hll
            have hmd := hok.1
            have hm8 := hok.2.1
            clear hok he hT hT0 hc hnx HT0
            go_upto_region 33 with fail
            clear c0 c1 c2 c3 c4
            generalize wr.alloc (.cells #[.int .u8 (e.d : Nat), .bool e.g, .string e.t, .string e.k, .int .u8 (e.m : Nat)] 91) = w4 at HIB HT1 ⊢
            generalize wr.heap.size = ib at HIB ⊢
            have HT5 := hide (HT1.out.ext (Ext.drewN w4 1))
            have HI5 := hide (HIB.out.drewN 1)
            have hS0 := tsc HT5.out HI5.out
            clear HT1 HIB
            refine wp_region_any (by kernel_rfl) ?_
            change wpAny _ _ _ _ _ _ _ (World.drew _)
            change wpAny _ _ _ _ _ _ _ (World.drewN w4 1)
            generalize w4.drewN 1 = w5 at HT5 HI5 hS0 ⊢
            refine takeP (i := 0) (o := { dst := some 166, op := Op.move (Operand.tmp 25), type := 86, pos := "", after := #[], guard := none }) (.pointer (some ⟨tb, 0, none⟩)) (by rfl) rfl (by kernel_rfl) (by kernel_rfl) (by kernel_rfl) (fun _ _ _ h => h) (by intro w; go_simp) ?_
            try simp only [Act.put, List.setIfInBounds_toArray, List.set_cons_zero, List.set_cons_succ]
            refine takeP (i := 1) (o := { dst := some 167, op := Op.move (Operand.tmp 25), type := 86, pos := "", after := #[], guard := none }) (.pointer (some ⟨tb, 0, none⟩)) (by rfl) rfl (by kernel_rfl) (by kernel_rfl) (by kernel_rfl) (fun _ _ _ h => h) (by intro w; go_simp) ?_
            try simp only [Act.put, List.setIfInBounds_toArray, List.set_cons_zero, List.set_cons_succ]
            refine takeP (i := 2) (o := { dst := some 168, op := Op.nilCheck (Operand.tmp 167), type := 0, pos := "", after := #[], guard := none }) (.pointer (some ⟨tb, 0, none⟩)) (by rfl) rfl (by kernel_rfl) (by kernel_rfl) (by kernel_rfl) (fun _ _ _ h => h) (by intro w; go_simp) ?_
            try simp only [Act.put, List.setIfInBounds_toArray, List.set_cons_zero, List.set_cons_succ]
            refine takeP (i := 3) (o := { dst := some 169, op := Op.fieldAddr 89 (Operand.tmp 168) 2, type := 0, pos := "", after := #[], guard := none }) (.pointer (some ⟨tb, 2, none⟩)) (by rfl) rfl (by kernel_rfl) (by kernel_rfl) (by kernel_rfl) (fun _ _ _ h => h) (by intro w; go_simp) ?_
            try simp only [Act.put, List.setIfInBounds_toArray, List.set_cons_zero, List.set_cons_succ]
            refine takeP (i := 5) (o := { dst := some 171, op := Op.fieldAddr 91 (Operand.tmp 27) 0, type := 0, pos := "", after := #[], guard := none }) (.pointer (some ⟨ib, 0, none⟩)) (by rfl) rfl (by kernel_rfl) (by kernel_rfl) (by kernel_rfl) (fun _ _ _ h => h) (by intro w; go_simp) ?_
            try simp only [Act.put, List.setIfInBounds_toArray, List.set_cons_zero, List.set_cons_succ]
            refine takeP (i := 7) (o := { dst := some 173, op := Op.fieldAddr 91 (Operand.tmp 27) 1, type := 0, pos := "", after := #[], guard := none }) (.pointer (some ⟨ib, 1, none⟩)) (by rfl) rfl (by kernel_rfl) (by kernel_rfl) (by kernel_rfl) (fun _ _ _ h => h) (by intro w; go_simp) ?_
            try simp only [Act.put, List.setIfInBounds_toArray, List.set_cons_zero, List.set_cons_succ]
            refine takeP (i := 9) (o := { dst := some 175, op := Op.fieldAddr 91 (Operand.tmp 27) 2, type := 0, pos := "", after := #[], guard := none }) (.pointer (some ⟨ib, 2, none⟩)) (by rfl) rfl (by kernel_rfl) (by kernel_rfl) (by kernel_rfl) (fun _ _ _ h => h) (by intro w; go_simp) ?_
            try simp only [Act.put, List.setIfInBounds_toArray, List.set_cons_zero, List.set_cons_succ]
            refine takeP (i := 11) (o := { dst := some 177, op := Op.fieldAddr 91 (Operand.tmp 27) 3, type := 0, pos := "", after := #[], guard := none }) (.pointer (some ⟨ib, 3, none⟩)) (by rfl) rfl (by kernel_rfl) (by kernel_rfl) (by kernel_rfl) (fun _ _ _ h => h) (by intro w; go_simp) ?_
            try simp only [Act.put, List.setIfInBounds_toArray, List.set_cons_zero, List.set_cons_succ]
            refine takeP (i := 14) (o := { dst := some 180, op := Op.fieldAddr 91 (Operand.tmp 27) 4, type := 0, pos := "", after := #[], guard := none }) (.pointer (some ⟨ib, 4, none⟩)) (by rfl) rfl (by kernel_rfl) (by kernel_rfl) (by kernel_rfl) (fun _ _ _ h => h) (by intro w; go_simp) ?_
            try simp only [Act.put, List.setIfInBounds_toArray, List.set_cons_zero, List.set_cons_succ]
            refine wpAny_of_till (S := fun w' => w'.cell? ⟨tb, 2, none⟩ = some v ∧ w'.cell? ⟨ib, 0, none⟩ = some (.int .u8 (e.d : Nat)) ∧ w'.cell? ⟨ib, 1, none⟩ = some (.bool e.g) ∧ w'.cell? ⟨ib, 2, none⟩ = some (.string e.t) ∧ w'.cell? ⟨ib, 3, none⟩ = some (.string e.k) ∧ w'.cell? ⟨ib, 4, none⟩ = some (.int .u8 (e.m : Nat))) (st := 21) _ _ _ _ ?_
            refine takeL (i := 4) (o := { dst := some 170, op := Op.load 87 (Operand.tmp 169), type := 87, pos := "", after := #[], guard := none }) v (by rfl) rfl (by rfl) (by kernel_rfl) (by kernel_rfl) (by kernel_rfl) (by kernel_rfl) (by kernel_rfl) (fun _ _ _ h => h) (by intro w hSw; obtain ⟨q0, q1, q2, q3, q4, q5⟩ := hSw; go_simp) hS0 ?_
            try simp only [Act.put, List.setIfInBounds_toArray, List.set_cons_zero, List.set_cons_succ]
            refine takeL (i := 6) (o := { dst := some 172, op := Op.load 5 (Operand.tmp 171), type := 5, pos := "", after := #[], guard := none }) (.int .u8 (e.d : Nat)) (by rfl) rfl (by rfl) (by kernel_rfl) (by kernel_rfl) (by kernel_rfl) (by kernel_rfl) (by kernel_rfl) (fun _ _ _ h => h) (by intro w hSw; obtain ⟨q0, q1, q2, q3, q4, q5⟩ := hSw; go_simp) hS0 ?_
            try simp only [Act.put, List.setIfInBounds_toArray, List.set_cons_zero, List.set_cons_succ]
            refine takeL (i := 8) (o := { dst := some 174, op := Op.load 4 (Operand.tmp 173), type := 4, pos := "", after := #[], guard := none }) (.bool e.g) (by rfl) rfl (by rfl) (by kernel_rfl) (by kernel_rfl) (by kernel_rfl) (by kernel_rfl) (by kernel_rfl) (fun _ _ _ h => h) (by intro w hSw; obtain ⟨q0, q1, q2, q3, q4, q5⟩ := hSw; go_simp) hS0 ?_
            try simp only [Act.put, List.setIfInBounds_toArray, List.set_cons_zero, List.set_cons_succ]
            refine takeL (i := 10) (o := { dst := some 176, op := Op.load 9 (Operand.tmp 175), type := 9, pos := "", after := #[], guard := none }) (.string e.t) (by rfl) rfl (by rfl) (by kernel_rfl) (by kernel_rfl) (by kernel_rfl) (by kernel_rfl) (by kernel_rfl) (fun _ _ _ h => h) (by intro w hSw; obtain ⟨q0, q1, q2, q3, q4, q5⟩ := hSw; go_simp) hS0 ?_
            try simp only [Act.put, List.setIfInBounds_toArray, List.set_cons_zero, List.set_cons_succ]
            refine takeL (i := 12) (o := { dst := some 178, op := Op.load 9 (Operand.tmp 177), type := 9, pos := "", after := #[], guard := none }) (.string e.k) (by rfl) rfl (by rfl) (by kernel_rfl) (by kernel_rfl) (by kernel_rfl) (by kernel_rfl) (by kernel_rfl) (fun _ _ _ h => h) (by intro w hSw; obtain ⟨q0, q1, q2, q3, q4, q5⟩ := hSw; go_simp) hS0 ?_
            try simp only [Act.put, List.setIfInBounds_toArray, List.set_cons_zero, List.set_cons_succ]
            refine takeL (i := 15) (o := { dst := some 181, op := Op.load 5 (Operand.tmp 180), type := 5, pos := "", after := #[], guard := none }) (.int .u8 (e.m : Nat)) (by rfl) rfl (by rfl) (by kernel_rfl) (by kernel_rfl) (by kernel_rfl) (by kernel_rfl) (by kernel_rfl) (fun _ _ _ h => h) (by intro w hSw; obtain ⟨q0, q1, q2, q3, q4, q5⟩ := hSw; go_simp) hS0 ?_
            try simp only [Act.put, List.setIfInBounds_toArray, List.set_cons_zero, List.set_cons_succ]
            refine wpTill_ready (rs := [13]) (by kernel_rfl) (by simp) ?_
            refine AllTill.consT (o := { dst := some 179, op := Op.call { callee := Callee.value (Operand.func 14), args := #[Operand.tmp 172, Operand.tmp 174, Operand.tmp 176, Operand.tmp 178], argTypes := #[5, 4, 9, 9] }, type := 49, pos := "", after := #[], guard := none }) (by rfl) rfl (fun K hK => ?_) AllTill.nil
            go_simp
            refine (hrese _).mono ?_
            rintro e' w6 ⟨rfl, hx6⟩
            have HT6 := hide (HT5.out.ext hx6)
            have HI6 := hide (HI5.out.ext hx6 id)
            clear HT5 HI5 hx6
            have hS6 := tsc HT6.out HI6.out
            go_wp2_with fail
            refine hK.out _ _ (.inr hS6) ?_
            clear hK K hS0
            try simp only [Act.put, List.setIfInBounds_toArray, List.set_cons_zero, List.set_cons_succ]
            refine wpTill_ready (rs := [16]) (by kernel_rfl) (by simp) ?_
            refine AllTill.consT (o := { dst := some 182, op := Op.build 93 #[(0, Operand.tmp 179), (1, Operand.tmp 181)], type := 93, pos := "", after := #[], guard := none }) (by rfl) rfl (fun K hK => ?_) AllTill.nil
            go_simp
            refine hK.out _ _ (.inr hS6) ?_
            clear hK K
            try simp only [Act.put, List.setIfInBounds_toArray, List.set_cons_zero, List.set_cons_succ]
            refine wpTill_ready (rs := [17]) (by kernel_rfl) (by simp) ?_
            refine AllTill.consT (o := { dst := some 183, op := Op.buildSlice 87 1 #[(0, Operand.tmp 182)], type := 87, pos := "", after := #[], guard := none }) (by rfl) rfl (fun K hK => ?_) AllTill.nil
            go_simp
            have HT7 := hide (HT6.out.ext (Ext.alloc w6 (.cells #[.int .u8 Z0, .int .u8 Z1, .int .u8 Z2, .string Z3, .string Z4, .int .u8 (e.m : Nat)] 93)))
            have HI7 := hide (HI6.out.alloc (.cells #[.int .u8 Z0, .int .u8 Z1, .int .u8 Z2, .string Z3, .string Z4, .int .u8 (e.m : Nat)] 93))
            have HN7 := hide (Blk.new w6 #[.int .u8 Z0, .int .u8 Z1, .int .u8 Z2, .string Z3, .string Z4, .int .u8 (e.m : Nat)] 93)
            have hS7 := tsc HT7.out HI7.out
            refine hK.out _ _ (.inr hS7) ?_
            clear hK K HT6 HI6 hS6
            try simp only [Act.put, List.setIfInBounds_toArray, List.set_cons_zero, List.set_cons_succ]
            generalize w6.alloc (.cells #[.int .u8 Z0, .int .u8 Z1, .int .u8 Z2, .string Z3, .string Z4, .int .u8 (e.m : Nat)] 93) = w7 at HT7 HI7 HN7 hS7 ⊢
            generalize w6.heap.size = nb at HN7 ⊢
            refine wpTill_ready (rs := [18]) (by kernel_rfl) (by simp) ?_
            refine AllTill.consT (o := { dst := some 184, op := Op.call { callee := Callee.builtin Builtin.append, args := #[Operand.tmp 170, Operand.tmp 183], argTypes := #[87, 87] }, type := 87, pos := "", after := #[], guard := none }) (by rfl) rfl (fun K hK => ?_) AllTill.nil
            refine step_append_lies w7 rfl _ _ 87 rfl w.heap.size 93 i93 _ 6 48 Yba.underlying87 hi93 hz93 hs93 hb93 rfl (by omega) v ll.length (flat ll) (by rfl) HT7.out.2.2.2 ⟨nb, 0, none⟩ 1 1 [.int .u8 Z0, .int .u8 Z1, .int .u8 Z2, .string Z3, .string Z4, .int .u8 (e.m : Nat)] (by rfl) (by rfl) (fun j u hu => World.news_of_block HN7.out j u hu) (by simp [Value.oneCell']) (by omega) (by unfold maxLen; omega) (by omega) HT7.out.1.ext.size _ rfl ?_
            intro g8 cap8 w8 hown8 hgr8 _ _
            obtain ⟨hT8, hB8⟩ := HT7.out.app (e.r, e.m) (by rw [HEL.out]; exact hown8) hgr8
            have HT8 := hide hT8
            have k8 : w8.cell? ⟨tb, 2, none⟩ = some v := hB8.cell 2
            have f8 : w8.frozen? ⟨tb, 2, none⟩ = false := hB8.frozen 2
            have hIB8 : Blk w8 ib #[.int .u8 (e.d : Nat), .bool e.g, .string e.t, .string e.k, .int .u8 (e.m : Nat)] 91 := HI7.out.ext (Ext.grown hgr8) (fun hh => by
              rcases HT7.out.2.2.2.2 with ⟨rfl, _⟩ | ⟨g', cap, cur, rfl, _, hB, _⟩
              · cases hh
              · injection hh with hh
                have hB' : Blk w7 g' cur 93 := hB
                exact HI7.out.ne hB' (by decide) hh.symm)
            refine hK.out _ _ (.inr ⟨k8, hIB8.cell 0, hIB8.cell 1, hIB8.cell 2, hIB8.cell 3, hIB8.cell 4⟩) ?_
            have hS8 : w8.cell? ⟨tb, 2, none⟩ = some v ∧ w8.cell? ⟨ib, 0, none⟩ = some (.int .u8 (e.d : Nat)) ∧ w8.cell? ⟨ib, 1, none⟩ = some (.bool e.g) ∧ w8.cell? ⟨ib, 2, none⟩ = some (.string e.t) ∧ w8.cell? ⟨ib, 3, none⟩ = some (.string e.k) ∧ w8.cell? ⟨ib, 4, none⟩ = some (.int .u8 (e.m : Nat)) := ⟨k8, hIB8.cell 0, hIB8.cell 1, hIB8.cell 2, hIB8.cell 3, hIB8.cell 4⟩
            clear hK K HT7 HI7 HN7 hS7 hown8 hgr8 hT8 hB8 hIB8
            try simp only [Act.put, List.setIfInBounds_toArray, List.set_cons_zero, List.set_cons_succ]
            refine wpTill_ready (rs := [19]) (by kernel_rfl) (by simp) ?_
            refine AllTill.consT (o := { dst := some 185, op := Op.nilCheck (Operand.tmp 166), type := 0, pos := "", after := #[], guard := none }) (by rfl) rfl (fun K hK => ?_) AllTill.nil
            go_simp
            refine hK.out _ _ (.inr hS8) ?_
            clear hK K
            try simp only [Act.put, List.setIfInBounds_toArray, List.set_cons_zero, List.set_cons_succ]
            refine wpTill_ready (rs := [20]) (by kernel_rfl) (by simp) ?_
            refine AllTill.consT (o := { dst := some 186, op := Op.fieldAddr 89 (Operand.tmp 185) 2, type := 0, pos := "", after := #[], guard := none }) (by rfl) rfl (fun K hK => ?_) AllTill.nil
            go_simp
            refine hK.out _ _ (.inr hS8) ?_
            clear hK K
            try simp only [Act.put, List.setIfInBounds_toArray, List.set_cons_zero, List.set_cons_succ]
            refine wpTill_ready (rs := [21]) (by kernel_rfl) (by simp) ?_
            refine AllTill.consT (o := { dst := none, op := Op.store 87 (Operand.tmp 186) (Operand.tmp 184), type := 0, pos := "", after := #[], guard := none }) (by rfl) rfl (fun K hK => ?_) AllTill.nil
            go_simp
            refine hK.out _ _ (.inl (by kernel_rfl)) ?_
            clear hK K k8 f8 hS8
            try simp only [Act.put, List.setIfInBounds_toArray, List.set_cons_zero, List.set_cons_succ]
            refine wpTill_done (by kernel_rfl) ?_ _
            go_wp2_with fail
            go_roundg (I.length - (i + 1))
            case measure => omega
            case rel => exact ⟨i + 1, by go_num, by omega, by omega, ⟨_, by rw [HNX.out]; exact HT8.out⟩⟩
          · obtain rfl : i = I.length := by omega
            obtain ⟨v, hT0⟩ := hT.out
            rw [List.take_length] at hT0
            have HT := hide hT0
            clear hT hT0 HT0
            have hp16 : tx % 16 < 16 := Nat.mod_lt _ (by omega)
            have h15 := fun w => partT_any tx w
            have HT1 := hide (HT.out.ext (Ext.drewN wr 1))
            clear HT
            obtain ⟨p, hp⟩ : ∃ p, tx % 16 = p := ⟨_, rfl⟩
            simp only [hp] at h15 hp16
            have HPP := hide hp
            clear hp
            have hp16i : ((p : Nat) : Int) < 16 := by omega
            have hp0i : (0 : Int) ≤ ((p : Nat) : Int) := by omega
            go_wp2_with fail
            go_region_held3 (fun _ => True) (trivial) ((go_at_call 15; refine (h15 _).mono ?_; rintro e' w9 ⟨rfl, rfl⟩))
            rw [show wr.drew = wr.drewN 1 from rfl]
            generalize wr.drewN 1 = w5 at HT1 ⊢
            obtain ⟨w7, hrun7, hMp7, hg7⟩ := (Mp.made Yba.prog 41 w5).put keyed41 Yba.underlying72 (by unfold maxLen; omega) (key41 tx htx) (val := .pointer (some ⟨tb, 0, none⟩))
            have hE7 : Ext (fun _ => False) w5 w7 := ((Ext.alloc w5 _).trans (Ext.grown hg7)).mono (fun k hk e => by rcases e with e | e; exact e; have := Option.some.inj e; omega)
            have hT7 := HT1.out.ext hE7
            have k7 : w7.cell? ⟨mb, 2144 + p * 66, none⟩ = some (.map none) := hT7.1.cTx2 hp16
            have f7 : w7.frozen? ⟨mb, 2144 + p * 66, none⟩ = false := by rw [show 2144 + p * 66 = 2144 + 66 * p by omega]; exact (hT7.1.cTx hp16).2
            have hmb7 : w5.heap.size ≠ mb := by have := HT1.out.1.mlt; omega
            have HSM := hide (hT7.1.setTx hp16 (some w5.heap.size))
            have e8 := Ext.set w7 ⟨mb, 2144 + p * 66, none⟩ (.map (some w5.heap.size))
            have HSP := hide (RawMap.Mp.of hMp7 (e8.block w5.heap.size (RawMap.Mp.lt hMp7) hmb7))
            have htm : tb ≠ mb := by obtain ⟨arr, hb, _⟩ := hT7.1.mblk; exact hT7.2.1.ne hb (by decide)
            have hB8 := hT7.2.1.ext e8 htm
            have HS0 : Hid ((w7.setCell ⟨mb, 2144 + p * 66, none⟩ (.map (some w5.heap.size))).cell? ⟨tb, 0, none⟩ = some (.int .u64 (tx : Nat))) := hB8.cell 0
            have HS2 : Hid ((w7.setCell ⟨mb, 2144 + p * 66, none⟩ (.map (some w5.heap.size))).cell? ⟨tb, 2, none⟩ = some v) := hB8.cell 2
            have HSI : Hid (ICells (w7.setCell ⟨mb, 2144 + p * 66, none⟩ (.map (some w5.heap.size))) v (I.map (fun e => (e.r, e.m)))) := by
              have hO := hT7.2.2.2
              have hl7 : (I.map (fun e => (e.r, e.m))).length = (I.map (fun e => (e.r, e.m))).length := rfl
              refine ICells.of (B := w.heap.size) ⟨hO.1, ?_⟩
              rcases hO.2 with h | ⟨g, cap, cur, hv, hb, hB, hr⟩
              · exact .inl h
              · have hB' : Blk w7 g cur 93 := hB
                exact .inr ⟨g, cap, cur, hv, hb, hB'.ext e8 (fun hh => by obtain ⟨arr, hb2, _⟩ := hT7.1.mblk; exact hB'.ne hb2 (by decide) hh), hr⟩
            clear hMp7 hg7 hE7 hT7 hmb7 e8 hB8 HT1 h15
            have hmkm := @run_makeMap Yba.prog
            go_wp2_with fail
            generalize w7.setCell ⟨mb, 2144 + p * 66, none⟩ (.map (some w5.heap.size)) = w8 at HSM HSP HS0 HS2 HSI ⊢
            generalize w5.heap.size = xb at HSM HSP ⊢
            rw [← HPP.out] at HSM
            clear hrun7 k7 f7 hmkm HPP
            generalize hrr : rs d gap t k = rr at hres
            have HRR := hide hrr
            have HFIT : Hid rr.fit := by rw [← hrr]; exact Rs.fitOf d gap ht hk
            clear hrr
            have HHELD : Hid (∀ (w' : World), Ext (fun _ => False) w8 w' → Calls Yba.prog 16 #[.pointer (some ⟨mb, 0, none⟩), .int .u64 (tx : Nat), .agg (resC rr)] w' fun e w'' => e = .returned (.int .u8 (holdsM (I.map (fun e => (e.r, e.m))) (LL G G.length rr) rr tx : Nat)) ∧ Ext (fun _ => False) w' w'') := fun w' x => heldS_any (HSM.out.ext0 x) tx htx rr HFIT.out (xb := xb) (tb := tb) (n := 1) (if_pos rfl) (RawMap.Mp.of HSP.out (Ext.block x xb (RawMap.Mp.lt HSP.out) id)) (upd_same _ _ _) v (I.map (fun e => (e.r, e.m))) (by simpa using hil) (ecell x HS0.out) (ecell x HS2.out) (HSI.out.ext x)
            go_loopg [29, 30, 204] I.length (fun f s29 s30 s204 wx => ∃ i : Nat, s29 = .int .u8 (0 : Nat) ∧ s30 = .bool false ∧ s204 = .int .i64 (i : Nat) ∧ i ≤ I.length ∧ I.length - i ≤ f ∧ Hid (Ext (fun _ => False) w8 wx) ∧ Hid (∀ j (hj : j < I.length), j < i → I[j].r ≠ rr))
            case atStart => exact ⟨0, rfl, rfl, rfl, by omega, by omega, erefl _, fun j _ h => absurd h (by omega)⟩
            case round =>
              obtain ⟨i, rfl, rfl, rfl, hi, hf, hE, hno⟩ := hrel
              by_cases hlt : i < I.length
              · obtain ⟨b, off, rfl, hc⟩ := HI.out.2 (fun e => by rw [e] at hlt; simp at hlt)
                have hci := (hc i hlt).ext (ecomp HSM.out.ext hE.out)
                have hok := HI.out.1 _ (List.getElem_mem hlt)
                obtain ⟨e, he⟩ : ∃ e, I[i] = e := ⟨_, rfl⟩
                rw [he] at hci hok
                obtain ⟨c0, c1, c2, c3, c4⟩ := hci
                have hsm := fun w => same_any e.d d hok.1 hd e.g gap e.t e.k t k w
                have hmd := hok.1
                have hm8 := hok.2.1
                have HEI := hide he
                clear hok he hc
                by_cases hre : e.r = rr
                · have HIX : Hid (idxOf (I.map (fun e => (e.r, e.m))) rr = some i) := idx_hit (by simpa using hlt) (fun j hj hji => by simp at hj ⊢; exact hno.out j hj hji) (by simp; rw [HEI.out]; exact hre)
                  have HWANT : Hid (holdsM (I.map (fun e => (e.r, e.m))) (LL G G.length rr) rr tx = e.m) := by
                    show _ = _
                    unfold holdsM
                    rw [HIX.out]
                    simp [List.getElem?_eq_getElem hlt, HEI.out]
                  rw [show rs e.d e.g e.t e.k = rs d gap t k by rw [HRR.out]; exact hre, decide_eq_true rfl] at hsm
                  clear hre
                  have hxx := hE.out
                  have HXX := hide (ecomp hE.out (Ext.alloc wr (.cells #[.int .u8 (e.d : Nat), .bool e.g, .string e.t, .string e.k, .int .u8 (e.m : Nat)] 91)))
                  have hheld2 := HHELD.out
                  simp only [HWANT.out] at hheld2
                  go_wp2_with (first | (go_at_call 12; refine (hsm _).mono ?_; rintro e' w' ⟨rfl, rfl⟩) | (go_at_call 14; refine (hres _).mono ?_; rintro e' wA ⟨rfl, hxA⟩; have hxB := ecomp HXX.out hxA; have hhl := hheld2 wA hxB; have HXB := hide hxB; clear hxA hxB) | (go_at_call 16; refine hhl.mono ?_; rintro e' wB ⟨rfl, hxC⟩; have HXC := hide (ecomp HSM.out.ext (ecomp HXB.out hxC)); clear hxC))
                  go_ret
                  exact ⟨by simp, HXC.out⟩
                · rw [decide_eq_false (show ¬ rs e.d e.g e.t e.k = rs d gap t k by rw [HRR.out]; exact hre)] at hsm
                  have HRE : Hid (I[i].r ≠ rr) := by show _ ≠ _; rw [HEI.out]; exact hre
                  clear hre
                  go_wp2_with (go_at_call 12; refine (hsm _).mono ?_; rintro e' w' ⟨rfl, rfl⟩)
                  go_roundg (I.length - (i + 1))
                  case measure => omega
                  case rel =>
                    refine ⟨i + 1, rfl, rfl, by go_num, by omega, by omega, ecomp hE.out (Ext.alloc _ _), fun j hj hji => ?_⟩
                    rcases Nat.lt_or_eq_of_le (Nat.le_of_lt_succ hji) with h9 | h9
                    · exact hno.out j hj h9
                    · subst h9; exact HRE.out
              · have HIX : Hid (idxOf (I.map (fun e => (e.r, e.m))) rr = none) := idx_none (fun j hj => by simp at hj ⊢; exact hno.out j hj (by omega))
                have HLK : Hid (look (LL G G.length rr) tx = firstG G rr tx) := by have h := LL_look (G := G) rr tx G.length (Nat.le_refl _); rw [List.take_length] at h; exact h
                have HHM : Hid (holdsM (I.map (fun e => (e.r, e.m))) (LL G G.length rr) rr tx = (firstG G rr tx).getD 0) := by show _ = _; unfold holdsM; rw [HIX.out, ← HLK.out]
                clear hno
                go_wp2_with fail
                go_loopg [29, 231] G.length (fun f s29 s231 wx => ∃ i : Nat, s29 = .int .u8 (0 : Nat) ∧ s231 = .int .i64 (i : Nat) ∧ i ≤ G.length ∧ G.length - i ≤ f ∧ Hid (Ext (fun _ => False) w8 wx) ∧ Hid (∀ j (hj : j < G.length), j < i → ¬ (G[j].tx = tx ∧ G[j].r = rr)))
                case atStart => exact ⟨0, rfl, rfl, by omega, by omega, hE, fun j _ h => absurd h (by omega)⟩
                case round =>
                  obtain ⟨i, rfl, rfl, hi, hf, hE2, hno⟩ := hrel
                  by_cases hltG : i < G.length
                  · obtain ⟨b, off, rfl, hc⟩ := HG.out.2 (fun e => by rw [e] at hltG; simp at hltG)
                    have hci := (hc i hltG).ext (ecomp HSM.out.ext hE2.out)
                    have hok := HG.out.1 _ (List.getElem_mem hltG)
                    obtain ⟨e, he⟩ : ∃ e, G[i] = e := ⟨_, rfl⟩
                    rw [he] at hci hok
                    obtain ⟨c0, c1, c2, c3, c4, c5⟩ := hci
                    have hsm := fun w => same_any e.d d hok.1 hd e.g gap e.t e.k t k w
                    have hmd := hok.1
                    have hm8 := hok.2.1
                    have HEI := hide he
                    clear hok he hc
                    by_cases hte : e.tx = tx
                    · rw [hte] at c4
                      by_cases hre : e.r = rr
                      · have HWANT : Hid (holdsM (I.map (fun e => (e.r, e.m))) (LL G G.length rr) rr tx = e.m) := by
                          show _ = _
                          rw [HHM.out, firstG_hit hltG (fun j hj hji => hno.out j hj hji) (by rw [HEI.out]; exact ⟨hte, hre⟩), HEI.out]; rfl
                        rw [show rs e.d e.g e.t e.k = rs d gap t k by rw [HRR.out]; exact hre, decide_eq_true rfl] at hsm
                        clear hre hte
                        have HXX := hide (ecomp hE2.out (Ext.alloc wr (.cells #[.int .u8 (e.d : Nat), .bool e.g, .string e.t, .string e.k, .int .u64 (tx : Nat), .int .u8 (e.m : Nat)] 81)))
                        have hheld2 := HHELD.out
                        simp only [HWANT.out] at hheld2
                        go_wp2_with (first | (go_at_call 12; refine (hsm _).mono ?_; rintro e' w' ⟨rfl, rfl⟩) | (go_at_call 14; refine (hres _).mono ?_; rintro e' wA ⟨rfl, hxA⟩; have hxB := ecomp HXX.out hxA; have hhl := hheld2 wA hxB; have HXB := hide hxB; clear hxA hxB) | (go_at_call 16; refine hhl.mono ?_; rintro e' wB ⟨rfl, hxC⟩; have HXC := hide (ecomp HSM.out.ext (ecomp HXB.out hxC)); clear hxC))
                        go_ret
                        exact ⟨by simp, HXC.out⟩
                      · rw [decide_eq_false (show ¬ rs e.d e.g e.t e.k = rs d gap t k by rw [HRR.out]; exact hre)] at hsm
                        have HRE : Hid (¬ (G[i].tx = tx ∧ G[i].r = rr)) := by rw [HEI.out]; exact fun h => hre h.2
                        clear hre hte
                        go_wp2_with (go_at_call 12; refine (hsm _).mono ?_; rintro e' w' ⟨rfl, rfl⟩)
                        go_roundg (G.length - (i + 1))
                        case measure => omega
                        case rel =>
                          refine ⟨i + 1, rfl, by go_num, by omega, by omega, ecomp hE2.out (Ext.alloc _ _), fun j hj hji => ?_⟩
                          rcases Nat.lt_or_eq_of_le (Nat.le_of_lt_succ hji) with h9 | h9
                          · exact hno.out j hj h9
                          · subst h9; exact HRE.out
                    · have htei : ¬ ((e.tx : Nat) : Int) = ((tx : Nat) : Int) := by omega
                      have HRE : Hid (¬ (G[i].tx = tx ∧ G[i].r = rr)) := by rw [HEI.out]; exact fun h => hte h.1
                      clear hte hsm
                      go_wp2_with fail
                      go_roundg (G.length - (i + 1))
                      case measure => omega
                      case rel =>
                        refine ⟨i + 1, rfl, by go_num, by omega, by omega, ecomp hE2.out (Ext.alloc _ _), fun j hj hji => ?_⟩
                        rcases Nat.lt_or_eq_of_le (Nat.le_of_lt_succ hji) with h9 | h9
                        · exact hno.out j hj h9
                        · subst h9; exact HRE.out
                  · have HWANT : Hid (holdsM (I.map (fun e => (e.r, e.m))) (LL G G.length rr) rr tx = 0) := by
                      show _ = _
                      rw [HHM.out, firstG_none (fun j hj => hno.out j hj (by omega))]; rfl
                    have HXX := hE2
                    have hheld2 := HHELD.out
                    simp only [HWANT.out] at hheld2
                    go_wp2_with (first | (go_at_call 14; refine (hres _).mono ?_; rintro e' wA ⟨rfl, hxA⟩; have hxB := ecomp HXX.out hxA; have hhl := hheld2 wA hxB; have HXB := hide hxB; clear hxA hxB) | (go_at_call 16; refine hhl.mono ?_; rintro e' wB ⟨rfl, hxC⟩; have HXC := hide (ecomp HSM.out.ext (ecomp HXB.out hxC)); clear hxC))
                    go_ret
                    exact ⟨by simp, HXC.out⟩
end Go.Proofs.YbulkdtuwC
