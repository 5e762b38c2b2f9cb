import Derived.Test.YbulkdtuwCG2
import Derived.Deep.DeepCutAuto
import Derived.Deep.RegionHeld3
namespace Go.Proofs.YbulkdtuwC
open Go.RowKit Go.Proofs.YbulkdtuwB RawMap

/-- where a resource's entry lies -/
def At (mb : Nat) (NB : Nd → Option Nat) (r : Rs) (b : Nat) : Prop := (r = .store ∧ b = mb) ∨ (r ≠ .store ∧ NB (.ent r) = some b)
def EPost (X : Nat → Array Value → TypeId → Prop) (w0 : World) (mb : Nat) (L : Rs → List (Nat × Nat)) (TP : Nat → Option Nat) (cnt : Nat) (r : Rs) (e : Ending) (w' : World) : Prop :=
  ∃ NB' b, e = .returned (.pointer (some ⟨b, 0, none⟩)) ∧ Mg X w0 mb NB' L TP (cnt + 1) w' ∧ At mb NB' r b

section
variable {X : Nat → Array Value → TypeId → Prop} {w0 : World} {mb : Nat} {NB : Nd → Option Nat} {L : Rs → List (Nat × Nat)} {TP : Nat → Option Nat} {cnt : Nat} {wr : World}
theorem entS_any (h : Mg X w0 mb NB L TP cnt wr) : Calls Yba.prog 13 #[.pointer (some ⟨mb, 0, none⟩), .agg (resC .store)] wr (EPost X w0 mb L TP cnt .store) := by
  have HH := hide h
  clear h
  simp only [resC]
  go_enter Yba.func13, Yba.ntmps13
  go_wp2
  go_ret
  exact ⟨NB, mb, rfl, (HH.out.ext0 (Ext.alloc _ _)).up (by omega), .inl ⟨rfl, rfl⟩⟩

theorem Mg.lTabs (h : Mg X w0 mb NB L TP cnt wr) {tb : Nat} (hn : NB .tabs = some tb) (t : ByteArray) (ht : t.size ≤ maxLen) : (Instr.lookup 58 (.map (some tb)) (.string t) false).run Yba.prog wr = .ok ((ptr (NB (.ent (.tab t)))).getD (.pointer none)) wr := by
  have := Mp.look (h.ok _ _ hn).2 keyed9 Yba.underlying58 (Yba.zeroValue66 _) (key9 t ht)
  rw [this]
  show Result.ok ((ptr (NB (.ent (.tab ⟨t.data.toList.toArray⟩)))).getD _) _ = _
  rw [ba_eta]

theorem eqm {t k e : TypeId} (h : Yba.prog.underlying t = some (.map k e)) (w : World) (o : Option Nat) : (binOp .eql t (.map o) (.map none)).run Yba.prog w = .ok (.bool o.isNone) w := by
  have h2 : ∀ d : Nat, (Op.equalIn (d + 1) t (.map o) (.map none)).run Yba.prog w = .ok o.isNone w := fun d => by
    cases o <;> simp [Op.equalIn, run_underlying h]
  simp only [binOp]
  simp [Op.equal, Op.maxDepth, h2 9999]

/-- a new entry of a table -/
theorem Mg.hangT (h : Mg X w0 mb NB L TP cnt wr) {tb : Nat} (hn : NB .tabs = some tb) (t : ByteArray) (ht : t.size ≤ maxLen) (h0 : NB (.ent (.tab t)) = none) (hcnt : cnt < maxLen) {Wd : World} (hWd : Ext (fun _ => False) (wr.alloc (.cells (entC (.tab t)) 57)) Wd) :
    ∃ w', (Instr.mapUpdate 58 (.map (some tb)) (.string t) (.pointer (some ⟨wr.heap.size, 0, none⟩))).run Yba.prog Wd = .ok () w' ∧ Mg X w0 mb (setN NB (.ent (.tab t)) wr.heap.size) L TP (cnt + 1) w' ∧ Wd.grownBy w' (some tb) := by
  refine h.hang (.tab t) hn h0 _ _ (h.ok _ _ hn).2 (f' := strK fun s => ptr (setN NB (.ent (.tab t)) wr.heap.size (.ent (.tab s)))) (fun w' hm => hm) t ht (upd_str (by rw [setN_same]; rfl) (fun x hx => by rw [setN_other _ _ (by simpa using hx)])) (fun w' hb => ?_) Yba.underlying58 hcnt hWd
  obtain ⟨e1, e2⟩ := entC_gr (.tab t)
  refine ⟨_, hb, e1, ?_⟩
  rw [h.lnil _ (by simp) h0, setN_other _ _ (by simp), h.shut _ _ (.more _ (by simp)) h0]
  exact e2

set_option maxRecDepth 100000 in
set_option maxHeartbeats 2000000 in
theorem entT_any (h : Mg X w0 mb NB L TP cnt wr) (t : ByteArray) (ht : t.size ≤ maxLen) (hcnt : cnt < maxLen) : Calls Yba.prog 13 #[.pointer (some ⟨mb, 0, none⟩), .agg (resC (.tab t))] wr (EPost X w0 mb L TP cnt (.tab t)) := by
  have HH := hide h
  clear h
  have hmm := @run_makeMap Yba.prog
  have hq := eqm Yba.underlying58
  simp only [resC]
  go_enter Yba.func13, Yba.ntmps13
  go_upto_region 5 with fail
  have HB := hide (HH.out.ext0 (Ext.alloc wr (.cells #[.int .u8 1, .int .u8 0, .int .u8 0, .string t, .string ⟨#[]⟩] 49)))
  have HR := hide (Blk.new wr #[.int .u8 1, .int .u8 0, .int .u8 0, .string t, .string ⟨#[]⟩] 49)
  have c31 := HB.out.cTabs.1
  have f31 := HB.out.cTabs.2
  generalize wr.alloc (.cells #[.int .u8 1, .int .u8 0, .int .u8 0, .string t, .string ⟨#[]⟩] 49) = W at HB HR c31 f31 ⊢
  generalize wr.heap.size = rb at HR ⊢
  clear HH
  go_upto_if 22 with fail
  go_cut [] (fun wx => Hid (∃ NB' tb, NB' .tabs = some tb ∧ Mg X w0 mb NB' L TP cnt wx ∧ Blk wx rb #[.int .u8 1, .int .u8 0, .int .u8 0, .string t, .string ⟨#[]⟩] 49))
  case first =>
    cases htb : NB .tabs with
    | none =>
      have HN := hide htb
      have HBA := HB.out.ext0 (Ext.alloc W (.map #[] 0))
      have c32 := HBA.cTabs.1
      have f32 := HBA.cTabs.2
      rw [htb] at c31 c32
      clear htb HBA
      go_wp2_with fail
      go_meet
      case rel => exact ⟨_, _, setN_same _ _ _, HB.out.mkTabs HN.out, ((HR.out.alloc _).ext (Ext.set _ _ _) (fun e => by obtain ⟨arr, hb, _⟩ := HB.out.mblk; exact HR.out.ne hb (by decide) e))⟩
    | some tb =>
      have HN := hide htb
      clear htb
      go_wp2_with fail
      go_meet
      case rel => exact ⟨NB, tb, HN.out, HB.out, HR.out⟩
  case rest =>
    obtain ⟨NB', tb, hnt, hM, hR⟩ := hcut.out
    have k31 : wc.cell? ⟨mb, 31, none⟩ = some (.map (some tb)) := by rw [← hnt]; exact hM.cTabs.1
    have r3 : wc.cell? ⟨rb, 3, none⟩ = some (.string t) := hR.cell 3
    have r0 : wc.cell? ⟨rb, 0, none⟩ = some (.int .u8 1) := hR.cell 0
    have r1 : wc.cell? ⟨rb, 1, none⟩ = some (.int .u8 0) := hR.cell 1
    have r2 : wc.cell? ⟨rb, 2, none⟩ = some (.int .u8 0) := hR.cell 2
    have r4 : wc.cell? ⟨rb, 4, none⟩ = some (.string ⟨#[]⟩) := hR.cell 4
    have hl : ∀ q, (Instr.lookup 58 (.map (some tb)) (.string t) false).run Yba.prog (wc.drewN q) = .ok ((ptr (NB' (.ent (.tab t)))).getD (.pointer none)) (wc.drewN q) := fun q => (hM.ext0 (Ext.drewN wc q)).lTabs hnt t ht
    have HM := hide hM
    have HR2 := hide hR
    have HNT := hide hnt
    clear hM hR hnt hcut c31 f31 HB HR hmm
    cases hne : NB' (.ent (.tab t)) with
    | some eb =>
      have HE := hide hne
      rw [hne] at hl
      clear hne
      simp only [ptr, Option.map_some, Option.getD_some] at hl
      go_wp2_with fail
      go_quiet (fail)
      go_wp2_with fail
      go_ret
      exact ⟨NB', eb, rfl, (HM.out.ext0 (Ext.drewN _ _)).up (by omega), .inr ⟨by simp, HE.out⟩⟩
    | none =>
      have HE := hide hne
      rw [hne] at hl
      clear hne
      simp only [ptr, Option.map_none, Option.getD_none] at hl
      go_wp2_with fail
      go_quiet (fail)
      have HM2 := hide (HM.out.ext0 (Ext.drewN wc nq))
      have HR3 := hide (HR2.out.drewN nq)
      clear HM HR2 k31 r0 r1 r2 r3 r4 hl
      generalize wc.drewN nq = w5 at HM2 HR3 ⊢
      have k31 : w5.cell? ⟨mb, 31, none⟩ = some (.map (some tb)) := by rw [← HNT.out]; exact HM2.out.cTabs.1
      have r3 : w5.cell? ⟨rb, 3, none⟩ = some (.string t) := HR3.out.cell 3
      have r0 : w5.cell? ⟨rb, 0, none⟩ = some (.int .u8 1) := HR3.out.cell 0
      have r1 : w5.cell? ⟨rb, 1, none⟩ = some (.int .u8 0) := HR3.out.cell 1
      have r2 : w5.cell? ⟨rb, 2, none⟩ = some (.int .u8 0) := HR3.out.cell 2
      have r4 : w5.cell? ⟨rb, 4, none⟩ = some (.string ⟨#[]⟩) := HR3.out.cell 4
      go_upto_region 10 with fail
      obtain ⟨w6, hrun, hM6, hg6⟩ := HM2.out.hangT HNT.out t ht HE.out hcnt (Wd := (w5.alloc (.cells (entC (.tab t)) 57)).drew) (Ext.drewN _ 1)
      have a31 : (w5.alloc (.cells (entC (.tab t)) 57)).drew.cell? ⟨mb, 31, none⟩ = some (.map (some tb)) := by rw [← HNT.out]; exact (HM2.out.ext0 (ecomp (Ext.alloc w5 _) (Ext.drewN _ 1))).cTabs.1
      have a3 : (w5.alloc (.cells (entC (.tab t)) 57)).drew.cell? ⟨rb, 3, none⟩ = some (.string t) := (HR3.out.alloc _).cell 3
      have b31 : w6.cell? ⟨mb, 31, none⟩ = some (.map (some tb)) := by rw [← HNT.out, ← setN_other NB' (c := .ent (.tab t)) w5.heap.size (by simp)]; exact hM6.cTabs.1
      have b3 : w6.cell? ⟨rb, 3, none⟩ = some (.string t) := (((HR3.out.alloc _).drew).ext (Ext.grown hg6) (fun e => by
        have h1 := (HM2.out.ok _ _ HNT.out).2
        exact Mp.notcells h1 HR3.out (Option.some.inj e).symm)).cell 3
      have HM6 := hide hM6
      clear hM6 hg6 k31 r0 r1 r2 r3 r4
      simp only [entC] at hrun a31 a3
      generalize w5.alloc (.cells #[.int .u8 0, .int .u8 0, .int .u8 0, .int .u8 0, .int .u64 0, .int .u64 0, .int .u64 0, .map none, .int .i32 0, .int .i32 0, .int .i32 0, .int .i32 0, .int .i32 0, .int .i32 0, .int .u8 1, .int .u8 0, .int .u8 0, .string t, .string ⟨#[]⟩, .pointer none, .slice none 0 0, .slice none 0 0, .slice none 0 0, .slice none 0 0, .slice none 0 0, .slice none 0 0, .slice none 0 0, .chan none, .slice none 0 0, .bool false, .bool false] 57) = w7 at hrun a31 a3 ⊢
      go_region_held3 (fun w' => w'.cell? ⟨mb, 31, none⟩ = some (.map (some tb)) ∧ w'.cell? ⟨rb, 3, none⟩ = some (.string t)) (exact ⟨by assumption, by assumption⟩) (fail)
      all_goals
        go_wp2_with fail
        go_ret
        exact ⟨_, _, rfl, HM6.out, .inr ⟨by simp, setN_same _ _ _⟩⟩
end
end Go.Proofs.YbulkdtuwC
