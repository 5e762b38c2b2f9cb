import Derived.Test.YbulkdtuwCE1
namespace Go.Proofs.YbulkdtuwC
open Go.RowKit Go.Proofs.YbulkdtuwB RawMap

section
variable {X : Nat → Array Value → TypeId → Prop} {w0 : World} {mb : Nat} {NB : Nd → Option Nat} {L : Rs → List (Nat × Nat)} {TP : Nat → Option Nat} {cnt : Nat} {wr : World}

theorem eqp {t e : TypeId} (h : Yba.prog.underlying t = some (.pointer e)) (w : World) (o : Option Nat) : (binOp .eql t ((ptr o).getD (.pointer none)) (.pointer none)).run Yba.prog w = .ok (.bool o.isNone) w := by
  cases o with
  | none =>
    have h2 : ∀ d : Nat, (Op.equalIn (d + 1) t (.pointer none) (.pointer none)).run Yba.prog w = .ok true w := fun d => by simp [Op.equalIn, run_underlying h]
    simp only [binOp, ptr, Option.map_none, Option.getD_none]
    simp [Op.equal, Op.maxDepth, h2 9999]
  | some b =>
    have h2 : ∀ d : Nat, (Op.equalIn (d + 1) t (.pointer (some ⟨b, 0, none⟩)) (.pointer none)).run Yba.prog w = .ok false w := fun d => by simp [Op.equalIn, run_underlying h]
    simp only [binOp, ptr, Option.map_some, Option.getD_some]
    simp [Op.equal, Op.maxDepth, h2 9999]
theorem eqp50 (w : World) (o : Option Nat) : (binOp .eql 50 ((ptr o).getD (.pointer none)) (.pointer none)).run Yba.prog w = .ok (.bool o.isNone) w := eqp Yba.underlying50 w o
theorem eqp66 (w : World) (o : Option Nat) : (binOp .eql 66 ((ptr o).getD (.pointer none)) (.pointer none)).run Yba.prog w = .ok (.bool o.isNone) w := eqp Yba.underlying66 w o
theorem eqg (t : TypeId) (w : World) (o : Option Nat) (x : Operand) : (eqGuard .eql t x (.const (.pointer none)) ((ptr o).getD (.pointer none)) (.pointer none)).run Yba.prog w = .ok () w := by
  cases o <;> simp [eqGuard, ptr]
/-- a node's own block is written, its contents hold on -/
theorem Mg.keep (h : Mg X w0 mb NB L TP cnt wr) {n : Nd} {bn : Nat} (hn : NB n = some bn) {w' : World} (e : Ext (fun k => k = bn) wr w') (hok : Ok NB L cnt w' n bn) : Mg X w0 mb NB L TP cnt w' := by
  obtain ⟨arr, hB, hr⟩ := h.mblk
  have hbn := h.ok n bn hn
  refine { h with ext := (h.ext.trans e).mono (fun k hk hh => by rcases hh with hh | hh; exact hh; have := hbn.1; have := h.ext.size; omega), mblk := ⟨arr, hB.ext e (hbn.2.notMb hB), hr⟩, ok := fun m bm hm => ?_, extra := h.xkeep (.inr ⟨n, hn⟩) e }
  by_cases hmn : m = n
  · subst hmn
    rw [hn] at hm; injection hm with hm; subst hm
    exact ⟨hbn.1, hok⟩
  · exact ⟨(h.ok m bm hm).1, (h.ok m bm hm).2.ext e (fun eq => hmn (h.inj _ _ _ hm (by rw [eq]; exact hn)))⟩

theorem Mg.lPart (h : Mg X w0 mb NB L TP cnt wr) {p pb : Nat} (hn : NB (.part p) = some pb) (t : ByteArray) (ht : t.size ≤ maxLen) : (Instr.lookup 59 (.map (some pb)) (.string t) false).run Yba.prog wr = .ok ((ptr (NB (.tk p t))).getD (.pointer none)) wr := by
  have := Mp.look (h.ok _ _ hn).2 keyed9 Yba.underlying59 (Yba.zeroValue50 _) (key9 t ht)
  rw [this]
  show Result.ok ((ptr (NB (.tk p ⟨t.data.toList.toArray⟩))).getD _) _ = _
  rw [ba_eta]
theorem Mg.lKeys (h : Mg X w0 mb NB L TP cnt wr) {kb : Nat} {t k : ByteArray} {g : Bool} (hn : NB (.keys (pn t k) t g) = some kb) (hk : k.size ≤ maxLen) : (Instr.lookup 58 (.map (some kb)) (.string k) false).run Yba.prog wr = .ok ((ptr (NB (.ent (.key g t k)))).getD (.pointer none)) wr := by
  have := Mp.look (h.ok _ _ hn).2 keyed9 Yba.underlying58 (Yba.zeroValue66 _) (key9 k hk)
  rw [this]
  show Result.ok ((if pn t ⟨k.data.toList.toArray⟩ = pn t k then ptr (NB (.ent (.key g t ⟨k.data.toList.toArray⟩))) else none).getD _) _ = _
  rw [ba_eta, if_pos rfl]
theorem Mg.cTk (h : Mg X w0 mb NB L TP cnt wr) {p kb : Nat} {t : ByteArray} (hn : NB (.tk p t) = some kb) (g : Bool) : wr.cell? ⟨kb, if g then 2 else 1, none⟩ = some (.map (NB (.keys p t g))) ∧ wr.frozen? ⟨kb, if g then 2 else 1, none⟩ = false := by
  obtain ⟨_, nm, nv, cv, hB⟩ := h.ok _ _ hn
  cases g with
  | true => exact ⟨hB.cell 2, hB.frozen 2⟩
  | false => exact ⟨hB.cell 1, hB.frozen 1⟩
/-- a new index of a table's keys -/
theorem Mg.hangK (h : Mg X w0 mb NB L TP cnt wr) {p pb : Nat} (hn : NB (.part p) = some pb) (t : ByteArray) (ht : t.size ≤ maxLen) (h0 : NB (.tk p t) = none) (hcnt : cnt < maxLen) {Wd : World} (hWd : Ext (fun _ => False) (wr.alloc (.cells #[.string t, .map none, .map none, .map none, .int .i64 0, .bool false] 109)) Wd) :
    ∃ w', (Instr.mapUpdate 59 (.map (some pb)) (.string t) (.pointer (some ⟨wr.heap.size, 0, none⟩))).run Yba.prog Wd = .ok () w' ∧ Mg X w0 mb (setN NB (.tk p t) wr.heap.size) L TP (cnt + 1) w' ∧ Wd.grownBy w' (some pb) := by
  refine h.hang (.tk p t) hn h0 _ _ (h.ok _ _ hn).2 (f' := strK fun s => ptr (setN NB (.tk p t) wr.heap.size (.tk p s))) (fun w' hm => hm) t ht (upd_str (by rw [setN_same]; rfl) (fun x hx => by rw [setN_other _ _ (by simpa using hx)])) (fun w' hb => ?_) Yba.underlying59 hcnt hWd
  refine ⟨.string t, 0, .bool false, ?_⟩
  rw [setN_other _ _ (by simp), setN_other _ _ (by simp), h.shut _ _ (.keys p t false) h0, h.shut _ _ (.keys p t true) h0]
  exact hb
/-- a new entry of a key or a gap -/
theorem Mg.hangE (h : Mg X w0 mb NB L TP cnt wr) {kb : Nat} {t k : ByteArray} {g : Bool} (hn : NB (.keys (pn t k) t g) = some kb) (hk : k.size ≤ maxLen) (h0 : NB (.ent (.key g t k)) = none) (hcnt : cnt < maxLen) {Wd : World} (hWd : Ext (fun _ => False) (wr.alloc (.cells (entC (.key g t k)) 57)) Wd) :
    ∃ w', (Instr.mapUpdate 58 (.map (some kb)) (.string k) (.pointer (some ⟨wr.heap.size, 0, none⟩))).run Yba.prog Wd = .ok () w' ∧ Mg X w0 mb (setN NB (.ent (.key g t k)) wr.heap.size) L TP (cnt + 1) w' ∧ Wd.grownBy w' (some kb) := by
  refine h.hang (.key t k g) hn h0 _ _ (h.ok _ _ hn).2 (f' := strK fun s => if pn t s = pn t k then ptr (setN NB (.ent (.key g t k)) wr.heap.size (.ent (.key g t s))) else none) (fun w' hm => hm) k hk (upd_str (by rw [if_pos rfl, setN_same]; rfl) (fun x hx => by rw [setN_other _ _ (by simpa using hx)])) (fun w' hb => ?_) Yba.underlying58 hcnt hWd
  obtain ⟨e1, e2⟩ := entC_gr (.key g t k)
  refine ⟨_, hb, e1, ?_⟩
  rw [h.lnil _ (by simp) h0, setN_other _ _ (by simp), h.shut _ _ (.more _ (by simp)) h0]
  exact e2
/-- tk.n++ -/
theorem Mg.tkN (h : Mg X w0 mb NB L TP cnt wr) {p kb : Nat} {t : ByteArray} (hn : NB (.tk p t) = some kb) (x : Int) : Mg X w0 mb NB L TP cnt (wr.setCell ⟨kb, 4, none⟩ (.int .i64 x)) := by
  obtain ⟨_, nm, nv, cv, hB⟩ := h.ok _ _ hn
  exact h.keep hn (Ext.set wr ⟨kb, 4, none⟩ _) ⟨nm, x, cv, hB.same 4 _⟩
theorem Mg.cTkN (h : Mg X w0 mb NB L TP cnt wr) {p kb : Nat} {t : ByteArray} (hn : NB (.tk p t) = some kb) : ∃ nv : Int, wr.cell? ⟨kb, 4, none⟩ = some (.int .i64 nv) ∧ wr.frozen? ⟨kb, 4, none⟩ = false := by
  obtain ⟨_, nm, nv, cv, hB⟩ := h.ok _ _ hn
  exact ⟨nv, hB.cell 4, hB.frozen 4⟩

/-- the parameter's own block is none of the Manager's -/
theorem rb_ne {r : Array Value} {rb : Nat} (h' : Blk wr rb r 49) {n : Nd} {b : Nat} (hk : Ok NB L cnt wr n b) : rb ≠ b := by
  cases n with
  | tabs => exact Mp.notcells hk h'
  | part p => exact Mp.notcells hk h'
  | tk p t => obtain ⟨_, _, _, hk⟩ := hk; exact h'.ne hk (by decide)
  | keys p t g => exact Mp.notcells hk h'
  | ent r => obtain ⟨_, hk, _⟩ := hk; exact h'.ne hk (by decide)
  | more r => exact Mp.notcells hk h'
theorem rb_mb (h : Mg X w0 mb NB L TP cnt wr) {r : Array Value} {rb : Nat} (h' : Blk wr rb r 49) : rb ≠ mb := by
  obtain ⟨arr, hb, _⟩ := h.mblk
  exact h'.ne hb (by decide)
end

section
variable {X : Nat → Array Value → TypeId → Prop} {w0 : World} {mb : Nat} {NB : Nd → Option Nat} {L : Rs → List (Nat × Nat)} {TP : Nat → Option Nat} {cnt : Nat} {wr : World}
set_option maxRecDepth 100000 in
set_option maxHeartbeats 4000000 in
theorem entKG_any (h : Mg X w0 mb NB L TP cnt wr) (t k : ByteArray) (ht : t.size ≤ maxLen) (hk : k.size ≤ maxLen) (hcnt : cnt + 2 < maxLen) : Calls Yba.prog 13 #[.pointer (some ⟨mb, 0, none⟩), .agg (resC (.key true t k))] wr (EPost X w0 mb L TP (cnt + 1) (.key true t k)) := by
  have HH := hide h
  clear h
  have hmm := @run_makeMap Yba.prog
  have hq58 := eqm Yba.underlying58
  have hq59 := eqm Yba.underlying59
  have hq50 := fun w o => eqp50 w o
  have hq66 := fun w o => eqp66 w o
  have hg50 := fun w o x => eqg 50 w o x
  have hg66 := fun w o x => eqg 66 w o x
  have hp16 : pn t k < 16 := Nat.mod_lt _ (by omega)
  have hPR := fun a b d e w => partR_any a b d e (pn t k) hp16 w
  have hEC : Hid (entC (.key true t k) = #[.int .u8 0, .int .u8 0, .int .u8 0, .int .u8 0, .int .u64 0, .int .u64 0, .int .u64 0, .map none, .int .i32 0, .int .i32 0, .int .i32 0, .int .i32 0, .int .i32 0, .int .i32 0, .int .u8 2, .int .u8 1, .int .u8 (pn t k : Nat), .string t, .string k, .pointer none, .slice none 0 0, .slice none 0 0, .slice none 0 0, .slice none 0 0, .slice none 0 0, .slice none 0 0, .slice none 0 0, .chan none, .slice none 0 0, .bool false, .bool false]) := rfl
  simp only [resC, if_true]
  generalize hpp : pn t k = p at hPR hp16 hEC ⊢
  have HPP := hide hpp
  clear hpp
  have hp16i : ((p : Nat) : Int) < 16 := by omega
  have hp0i : (0 : Int) ≤ ((p : Nat) : Int) := by omega
  go_enter Yba.func13, Yba.ntmps13
  go_upto_region 12 with fail
  have HB := hide (HH.out.ext0 (Ext.alloc wr (.cells #[.int .u8 2, .int .u8 1, .int .u8 (p : Nat), .string t, .string k] 49)))
  have HR := hide (Blk.new wr #[.int .u8 2, .int .u8 1, .int .u8 (p : Nat), .string t, .string k] 49)
  generalize wr.alloc (.cells #[.int .u8 2, .int .u8 1, .int .u8 (p : Nat), .string t, .string k] 49) = W at HB HR ⊢
  generalize wr.heap.size = rb at HR ⊢
  clear HH
  have r0 : W.drew.cell? ⟨rb, 0, none⟩ = some (.int .u8 2) := HR.out.cell 0
  have r1 : W.drew.cell? ⟨rb, 1, none⟩ = some (.int .u8 1) := HR.out.cell 1
  have r2 : W.drew.cell? ⟨rb, 2, none⟩ = some (.int .u8 (p : Nat)) := HR.out.cell 2
  have r3 : W.drew.cell? ⟨rb, 3, none⟩ = some (.string t) := HR.out.cell 3
  have r4 : W.drew.cell? ⟨rb, 4, none⟩ = some (.string k) := HR.out.cell 4
  go_region_held3 (fun w' => w'.cell? ⟨rb, 0, none⟩ = some (.int .u8 2) ∧ w'.cell? ⟨rb, 1, none⟩ = some (.int .u8 1) ∧ w'.cell? ⟨rb, 2, none⟩ = some (.int .u8 (p : Nat)) ∧ w'.cell? ⟨rb, 3, none⟩ = some (.string t) ∧ w'.cell? ⟨rb, 4, none⟩ = some (.string k)) (exact ⟨by assumption, by assumption, by assumption, by assumption, by assumption⟩)
    ((go_at_call 22; refine (hPR _ _ _ _ _).mono ?_; rintro e w1 ⟨rfl, hx1⟩; have HB1 := hide (HB.out.ext0 (ecomp (Ext.drewN W 1) hx1)); have HR1 := hide ((HR.out.drewN 1).ext hx1 id); have s0 : w1.cell? ⟨rb, 0, none⟩ = some (.int .u8 2) := HR1.out.cell 0; have s1 : w1.cell? ⟨rb, 1, none⟩ = some (.int .u8 1) := HR1.out.cell 1; have s2 : w1.cell? ⟨rb, 2, none⟩ = some (.int .u8 (p : Nat)) := HR1.out.cell 2; have s3 : w1.cell? ⟨rb, 3, none⟩ = some (.string t) := HR1.out.cell 3; have s4 : w1.cell? ⟨rb, 4, none⟩ = some (.string k) := HR1.out.cell 4))
  clear hPR hx1 HB HR r0 r1 r2 r3 r4 s0 s1 s2 s3 s4
  have c1 : w1.cell? ⟨mb, 32 + p * 132, none⟩ = some (.map (NB (.part p))) := by rw [show 32 + p * 132 = 32 + 132 * p by omega]; exact (HB1.out.cPart hp16).1
  have f1 : w1.frozen? ⟨mb, 32 + p * 132, none⟩ = false := by rw [show 32 + p * 132 = 32 + 132 * p by omega]; exact (HB1.out.cPart hp16).2
  go_upto_if 57 with fail
  go_cut [] (fun wx => Hid (∃ NB' pb, NB' (.part p) = some pb ∧ Mg X w0 mb NB' L TP cnt wx ∧ Blk wx rb #[.int .u8 2, .int .u8 1, .int .u8 (p : Nat), .string t, .string k] 49))
  case first =>
    cases htb : NB (.part p) with
    | none =>
      have HN := hide htb
      have HBA := HB1.out.ext0 (Ext.alloc w1 (.map #[] 0))
      have c2 : (w1.alloc (.map #[] 0)).cell? ⟨mb, 32 + p * 132, none⟩ = some (.map (NB (.part p))) := by rw [show 32 + p * 132 = 32 + 132 * p by omega]; exact (HBA.cPart hp16).1
      have f2 : (w1.alloc (.map #[] 0)).frozen? ⟨mb, 32 + p * 132, none⟩ = false := by rw [show 32 + p * 132 = 32 + 132 * p by omega]; exact (HBA.cPart hp16).2
      rw [htb] at c1 c2
      clear htb HBA
      go_wp2_with fail
      go_meet
      case rel =>
        refine ⟨setN NB (.part p) w1.heap.size, w1.heap.size, setN_same _ _ _, ?_, ((HR1.out.alloc _).ext (Ext.set _ _ _) (fun e => rb_mb HB1.out HR1.out e))⟩
        have h9 := HB1.out.mkPart hp16 HN.out
        rw [show 32 + 132 * p = 32 + p * 132 by omega] at h9
        exact h9
    | some pb =>
      have HN := hide htb
      clear htb
      go_wp2_with fail
      go_meet
      case rel => exact ⟨NB, pb, HN.out, HB1.out, HR1.out⟩
  case rest =>
    clear c1 f1 HB1 HR1
    obtain ⟨NB1, pb, hn1, hM1, hR1⟩ := hcut.out
    have k1 : wc.cell? ⟨mb, 32 + p * 132, none⟩ = some (.map (some pb)) := by rw [← hn1, show 32 + p * 132 = 32 + 132 * p by omega]; exact (hM1.cPart hp16).1
    have r3 : wc.cell? ⟨rb, 3, none⟩ = some (.string t) := hR1.cell 3
    have hl : ∀ q, (Instr.lookup 59 (.map (some pb)) (.string t) false).run Yba.prog (wc.drewN q) = .ok ((ptr (NB1 (.tk p t))).getD (.pointer none)) (wc.drewN q) := fun q => (hM1.ext0 (Ext.drewN wc q)).lPart hn1 t ht
    have HM1 := hide hM1
    have HR1 := hide hR1
    have HN1 := hide hn1
    clear hM1 hR1 hn1 hcut
    go_wp2_with fail
    go_quiet (fail)
    have HM2 := hide (HM1.out.ext0 (Ext.drewN wc nq))
    have HR2 := hide (HR1.out.drewN nq)
    clear HM1 HR1 k1 r3 hl
    generalize wc.drewN nq = w2 at HM2 HR2 ⊢
    go_upto_if 70 with fail
    go_cut [7] (fun s7 wx => Hid (∃ NB' kb, s7 = .pointer (some ⟨kb, 0, none⟩) ∧ NB' (.tk p t) = some kb ∧ Mg X w0 mb NB' L TP (cnt + 1) wx ∧ Blk wx rb #[.int .u8 2, .int .u8 1, .int .u8 (p : Nat), .string t, .string k] 49))
    case first =>
      cases hne : NB1 (.tk p t) with
      | some kb =>
        have HE := hide hne
        clear hne
        go_wp2_with fail
        go_meet
        case rel => exact ⟨NB1, kb, rfl, HE.out, HM2.out.up (by omega), HR2.out⟩
      | none =>
        have HE := hide hne
        clear hne
        have r3 : w2.cell? ⟨rb, 3, none⟩ = some (.string t) := HR2.out.cell 3
        go_upto_region 18 with fail
        obtain ⟨w6, hrun, hM6, hg6⟩ := HM2.out.hangK HN1.out t ht HE.out (by omega) (Wd := (w2.alloc (.cells #[.string t, .map none, .map none, .map none, .int .i64 0, .bool false] 109)).drew) (Ext.drewN _ 1)
        have a31 : (w2.alloc (.cells #[.string t, .map none, .map none, .map none, .int .i64 0, .bool false] 109)).drew.cell? ⟨mb, 32 + p * 132, none⟩ = some (.map (some pb)) := by rw [← HN1.out, show 32 + p * 132 = 32 + 132 * p by omega]; exact ((HM2.out.ext0 (ecomp (Ext.alloc w2 _) (Ext.drewN _ 1))).cPart hp16).1
        have a3 : (w2.alloc (.cells #[.string t, .map none, .map none, .map none, .int .i64 0, .bool false] 109)).drew.cell? ⟨rb, 3, none⟩ = some (.string t) := (HR2.out.alloc _).cell 3
        have b31 : w6.cell? ⟨mb, 32 + p * 132, none⟩ = some (.map (some pb)) := by rw [← HN1.out, ← setN_other NB1 (c := .tk p t) w2.heap.size (by simp), show 32 + p * 132 = 32 + 132 * p by omega]; exact (hM6.cPart hp16).1
        have HR6 := hide (((HR2.out.alloc (.cells #[.string t, .map none, .map none, .map none, .int .i64 0, .bool false] 109)).drew).ext (Ext.grown hg6) (fun e => rb_ne HR2.out (HM2.out.ok _ _ HN1.out).2 (Option.some.inj e).symm))
        have b3 : w6.cell? ⟨rb, 3, none⟩ = some (.string t) := HR6.out.cell 3
        have HM6 := hide hM6
        clear hM6 hg6 r3
        generalize w2.alloc (.cells #[.string t, .map none, .map none, .map none, .int .i64 0, .bool false] 109) = w7 at hrun a31 a3 ⊢
        go_region_held3 (fun w' => w'.cell? ⟨mb, 32 + p * 132, none⟩ = some (.map (some pb)) ∧ w'.cell? ⟨rb, 3, none⟩ = some (.string t)) (exact ⟨by assumption, by assumption⟩) (fail)
        all_goals
          go_wp2_with fail
          go_meet
          case rel => exact ⟨_, _, rfl, setN_same NB1 (.tk p t) w2.heap.size, HM6.out, HR6.out⟩
    case rest =>
      clear HM2 HR2 HN1
      obtain ⟨NB2, kb, rfl, hn2, hM2, hR2⟩ := hcut.out
      have k2 : wc.cell? ⟨kb, 2, none⟩ = some (.map (NB2 (.keys p t true))) := (hM2.cTk hn2 true).1
      have r1 : wc.cell? ⟨rb, 1, none⟩ = some (.int .u8 1) := hR2.cell 1
      have HM2 := hide hM2
      have HR2 := hide hR2
      have HN2 := hide hn2
      clear hM2 hR2 hn2 hcut
      go_wp2_with fail
      go_quiet (fail)
      have HM3 := hide (HM2.out.ext0 (Ext.drewN wc nq))
      have HR3 := hide (HR2.out.drewN nq)
      clear HM2 HR2 k2 r1
      generalize wc.drewN nq = w3 at HM3 HR3 ⊢
      go_upto_if 89 with fail
      go_cut [] (fun wx => Hid (∃ NB' qb, NB' (.tk p t) = some kb ∧ NB' (.keys p t true) = some qb ∧ Mg X w0 mb NB' L TP (cnt + 1) wx ∧ Blk wx rb #[.int .u8 2, .int .u8 1, .int .u8 (p : Nat), .string t, .string k] 49))
      case first =>
        cases hne : NB2 (.keys p t true) with
        | some qb =>
          have HE := hide hne
          clear hne
          go_wp2_with fail
          go_meet
          case rel => exact ⟨NB2, qb, HN2.out, HE.out, HM3.out, HR3.out⟩
        | none =>
          have HE := hide hne
          clear hne
          go_wp2_with fail
          have HM4 := hide (HM3.out.ext0 (Ext.drewN w3 1))
          have HR4 := hide (HR3.out.drewN 1)
          have r1 : w3.drew.cell? ⟨rb, 1, none⟩ = some (.int .u8 1) := HR4.out.cell 1
          have r1b : (w3.drew.alloc (.map #[] 0)).cell? ⟨rb, 1, none⟩ = some (.int .u8 1) := (HR4.out.alloc _).cell 1
          have r1c : (w3.alloc (.map #[] 0)).drew.cell? ⟨rb, 1, none⟩ = some (.int .u8 1) := (HR4.out.alloc _).cell 1
          have kc := ((HM4.out.ext0 (Ext.alloc _ (.map #[] 0))).cTk HN2.out true).1
          have kf := ((HM4.out.ext0 (Ext.alloc _ (.map #[] 0))).cTk HN2.out true).2
          have kc2 : (w3.alloc (.map #[] 0)).drew.cell? ⟨kb, 2, none⟩ = some (.map (NB2 (.keys p t true))) := kc
          have kf2 : (w3.alloc (.map #[] 0)).drew.frozen? ⟨kb, 2, none⟩ = false := kf
          have HM5 := hide (HM4.out.mkKeys HN2.out HE.out)
          have HR5 := hide ((HR4.out.alloc (.map #[] 0)).ext (Ext.set _ ⟨kb, 2, none⟩ (.map (some w3.heap.size))) (fun e => rb_ne HR4.out (HM4.out.ok _ _ HN2.out).2 e))
          have r1d := HR5.out.cell 1
          have r1e : ((w3.alloc (.map #[] 0)).drew.setCell ⟨kb, 2, none⟩ (.map (some w3.heap.size))).cell? ⟨rb, 1, none⟩ = some (.int .u8 1) := r1d
          go_region_held3 (fun w' => w'.cell? ⟨rb, 1, none⟩ = some (.int .u8 1)) (first | assumption | exact r1d | exact r1e | go_keep) (fail)
          all_goals
            go_wp2_with fail
            go_meet
            case rel => exact ⟨_, _, (setN_other NB2 (c := .keys p t true) _ (by simp)).trans HN2.out, setN_same NB2 (.keys p t true) w3.heap.size, HM5.out, HR5.out⟩
      case rest =>
        clear HM3 HR3 HN2
        obtain ⟨NB3, qb, hnt3, hnk3, hM3, hR3⟩ := hcut.out
        have k3 : wc.cell? ⟨kb, 2, none⟩ = some (.map (some qb)) := by rw [← hnk3]; exact (hM3.cTk hnt3 true).1
        have r1 : wc.cell? ⟨rb, 1, none⟩ = some (.int .u8 1) := hR3.cell 1
        have r4 : wc.cell? ⟨rb, 4, none⟩ = some (.string k) := hR3.cell 4
        have hl : ∀ q, (Instr.lookup 58 (.map (some qb)) (.string k) false).run Yba.prog (wc.drewN q) = .ok ((ptr (NB3 (.ent (.key true t k)))).getD (.pointer none)) (wc.drewN q) := fun q => (hM3.ext0 (Ext.drewN wc q)).lKeys (by rw [HPP.out]; exact hnk3) hk
        have HM3 := hide hM3
        have HR3 := hide hR3
        have HT3 := hide hnt3
        have HK3 := hide hnk3
        clear hM3 hR3 hnt3 hnk3 hcut
        cases hne : NB3 (.ent (.key true t k)) with
        | some eb =>
          have HE := hide hne
          rw [hne] at hl
          clear hne
          simp only [ptr, Option.map_some, Option.getD_some] at hl
          go_wp2_with fail
          go_quiet (fail)
          go_wp2_with fail
          go_ret
          exact ⟨NB3, eb, rfl, (HM3.out.ext0 (Ext.drewN _ _)).up (by omega), .inr ⟨by simp, HE.out⟩⟩
        | none =>
          have HE := hide hne
          rw [hne] at hl
          clear hne
          simp only [ptr, Option.map_none, Option.getD_none] at hl
          go_wp2_with fail
          go_quiet (fail)
          have HM5 := hide (HM3.out.ext0 (Ext.drewN wc nq))
          have HR5 := hide (HR3.out.drewN nq)
          clear HM3 HR3 k3 r1 r4 hl
          generalize wc.drewN nq = w5 at HM5 HR5 ⊢
          have r0 : w5.cell? ⟨rb, 0, none⟩ = some (.int .u8 2) := HR5.out.cell 0
          have r1 : w5.cell? ⟨rb, 1, none⟩ = some (.int .u8 1) := HR5.out.cell 1
          have r2 : w5.cell? ⟨rb, 2, none⟩ = some (.int .u8 (p : Nat)) := HR5.out.cell 2
          have r3 : w5.cell? ⟨rb, 3, none⟩ = some (.string t) := HR5.out.cell 3
          have r4 : w5.cell? ⟨rb, 4, none⟩ = some (.string k) := HR5.out.cell 4
          go_upto_region 24 with fail
          obtain ⟨w6, hrun, hM6, hg6⟩ := HM5.out.hangE (by rw [HPP.out]; exact HK3.out) hk HE.out (by omega) (Wd := (w5.alloc (.cells (entC (.key true t k)) 57)).drew) (Ext.drewN _ 1)
          have a3 : (w5.alloc (.cells (entC (.key true t k)) 57)).drew.cell? ⟨kb, 2, none⟩ = some (.map (some qb)) := by rw [← HK3.out]; exact ((HM5.out.ext0 (ecomp (Ext.alloc w5 _) (Ext.drewN _ 1))).cTk HT3.out true).1
          have HR6 := hide ((HR5.out.alloc (.cells (entC (.key true t k)) 57)).drew)
          have a1 := HR6.out.cell 1
          have a4 := HR6.out.cell 4
          have HT6 := hide ((setN_other NB3 (c := .ent (.key true t k)) w5.heap.size (show (.tk p t : Nd) ≠ _ by simp)).trans HT3.out)
          have b3 : w6.cell? ⟨kb, 2, none⟩ = some (.map (some qb)) := by rw [← HK3.out, ← setN_other NB3 (c := .ent (.key true t k)) w5.heap.size (show (.keys p t true : Nd) ≠ _ by simp)]; exact (hM6.cTk HT6.out true).1
          have HR7 := hide (HR6.out.ext (Ext.grown hg6) (fun e => rb_ne HR5.out (HM5.out.ok _ _ HK3.out).2 (Option.some.inj e).symm))
          have b1 : w6.cell? ⟨rb, 1, none⟩ = some (.int .u8 1) := HR7.out.cell 1
          have b4 : w6.cell? ⟨rb, 4, none⟩ = some (.string k) := HR7.out.cell 4
          obtain ⟨nv, n1, n2⟩ := hM6.cTkN HT6.out
          have HM6 := hide hM6
          clear hM6 hg6 r0 r1 r2 r3 r4 HR6 HR7
          rw [hEC.out] at hrun a3 a1 a4
          generalize w5.alloc (.cells #[.int .u8 0, .int .u8 0, .int .u8 0, .int .u8 0, .int .u64 0, .int .u64 0, .int .u64 0, .map none, .int .i32 0, .int .i32 0, .int .i32 0, .int .i32 0, .int .i32 0, .int .i32 0, .int .u8 2, .int .u8 1, .int .u8 (p : Nat), .string t, .string k, .pointer none, .slice none 0 0, .slice none 0 0, .slice none 0 0, .slice none 0 0, .slice none 0 0, .slice none 0 0, .slice none 0 0, .chan none, .slice none 0 0, .bool false, .bool false] 57) = w7 at hrun a3 a1 a4 ⊢
          have a1' : w7.drew.cell? ⟨rb, 1, none⟩ = some (.int .u8 1) := a1
          have a4' : w7.drew.cell? ⟨rb, 4, none⟩ = some (.string k) := a4
          clear a1 a4
          go_region_held3 (fun w' => w'.cell? ⟨rb, 1, none⟩ = some (.int .u8 1) ∧ w'.cell? ⟨rb, 4, none⟩ = some (.string k) ∧ w'.cell? ⟨kb, 2, none⟩ = some (.map (some qb))) (exact ⟨by assumption, by assumption, by assumption⟩) (fail)
          all_goals
            go_wp2_with fail
            go_ret
            exact ⟨_, _, rfl, HM6.out.tkN HT6.out _, .inr ⟨by simp, setN_same NB3 (.ent (.key true t k)) w5.heap.size⟩⟩
set_option maxRecDepth 100000 in
set_option maxHeartbeats 4000000 in
theorem entKA_any (h : Mg X w0 mb NB L TP cnt wr) (t k : ByteArray) (ht : t.size ≤ maxLen) (hk : k.size ≤ maxLen) (hcnt : cnt + 2 < maxLen) : Calls Yba.prog 13 #[.pointer (some ⟨mb, 0, none⟩), .agg (resC (.key false t k))] wr (EPost X w0 mb L TP (cnt + 1) (.key false t k)) := by
  have HH := hide h
  clear h
  have hmm := @run_makeMap Yba.prog
  have hq58 := eqm Yba.underlying58
  have hq59 := eqm Yba.underlying59
  have hq50 := fun w o => eqp50 w o
  have hq66 := fun w o => eqp66 w o
  have hg50 := fun w o x => eqg 50 w o x
  have hg66 := fun w o x => eqg 66 w o x
  have hp16 : pn t k < 16 := Nat.mod_lt _ (by omega)
  have hPR := fun a b d e w => partR_any a b d e (pn t k) hp16 w
  have hEC : Hid (entC (.key false t k) = #[.int .u8 0, .int .u8 0, .int .u8 0, .int .u8 0, .int .u64 0, .int .u64 0, .int .u64 0, .map none, .int .i32 0, .int .i32 0, .int .i32 0, .int .i32 0, .int .i32 0, .int .i32 0, .int .u8 2, .int .u8 0, .int .u8 (pn t k : Nat), .string t, .string k, .pointer none, .slice none 0 0, .slice none 0 0, .slice none 0 0, .slice none 0 0, .slice none 0 0, .slice none 0 0, .slice none 0 0, .chan none, .slice none 0 0, .bool false, .bool false]) := rfl
  simp only [resC, Bool.false_eq_true, if_false]
  generalize hpp : pn t k = p at hPR hp16 hEC ⊢
  have HPP := hide hpp
  clear hpp
  have hp16i : ((p : Nat) : Int) < 16 := by omega
  have hp0i : (0 : Int) ≤ ((p : Nat) : Int) := by omega
  go_enter Yba.func13, Yba.ntmps13
  go_upto_region 12 with fail
  have HB := hide (HH.out.ext0 (Ext.alloc wr (.cells #[.int .u8 2, .int .u8 0, .int .u8 (p : Nat), .string t, .string k] 49)))
  have HR := hide (Blk.new wr #[.int .u8 2, .int .u8 0, .int .u8 (p : Nat), .string t, .string k] 49)
  generalize wr.alloc (.cells #[.int .u8 2, .int .u8 0, .int .u8 (p : Nat), .string t, .string k] 49) = W at HB HR ⊢
  generalize wr.heap.size = rb at HR ⊢
  clear HH
  have r0 : W.drew.cell? ⟨rb, 0, none⟩ = some (.int .u8 2) := HR.out.cell 0
  have r1 : W.drew.cell? ⟨rb, 1, none⟩ = some (.int .u8 0) := HR.out.cell 1
  have r2 : W.drew.cell? ⟨rb, 2, none⟩ = some (.int .u8 (p : Nat)) := HR.out.cell 2
  have r3 : W.drew.cell? ⟨rb, 3, none⟩ = some (.string t) := HR.out.cell 3
  have r4 : W.drew.cell? ⟨rb, 4, none⟩ = some (.string k) := HR.out.cell 4
  go_region_held3 (fun w' => w'.cell? ⟨rb, 0, none⟩ = some (.int .u8 2) ∧ w'.cell? ⟨rb, 1, none⟩ = some (.int .u8 0) ∧ w'.cell? ⟨rb, 2, none⟩ = some (.int .u8 (p : Nat)) ∧ w'.cell? ⟨rb, 3, none⟩ = some (.string t) ∧ w'.cell? ⟨rb, 4, none⟩ = some (.string k)) (exact ⟨by assumption, by assumption, by assumption, by assumption, by assumption⟩)
    ((go_at_call 22; refine (hPR _ _ _ _ _).mono ?_; rintro e w1 ⟨rfl, hx1⟩; have HB1 := hide (HB.out.ext0 (ecomp (Ext.drewN W 1) hx1)); have HR1 := hide ((HR.out.drewN 1).ext hx1 id); have s0 : w1.cell? ⟨rb, 0, none⟩ = some (.int .u8 2) := HR1.out.cell 0; have s1 : w1.cell? ⟨rb, 1, none⟩ = some (.int .u8 0) := HR1.out.cell 1; have s2 : w1.cell? ⟨rb, 2, none⟩ = some (.int .u8 (p : Nat)) := HR1.out.cell 2; have s3 : w1.cell? ⟨rb, 3, none⟩ = some (.string t) := HR1.out.cell 3; have s4 : w1.cell? ⟨rb, 4, none⟩ = some (.string k) := HR1.out.cell 4))
  clear hPR hx1 HB HR r0 r1 r2 r3 r4 s0 s1 s2 s3 s4
  have c1 : w1.cell? ⟨mb, 32 + p * 132, none⟩ = some (.map (NB (.part p))) := by rw [show 32 + p * 132 = 32 + 132 * p by omega]; exact (HB1.out.cPart hp16).1
  have f1 : w1.frozen? ⟨mb, 32 + p * 132, none⟩ = false := by rw [show 32 + p * 132 = 32 + 132 * p by omega]; exact (HB1.out.cPart hp16).2
  go_upto_if 57 with fail
  go_cut [] (fun wx => Hid (∃ NB' pb, NB' (.part p) = some pb ∧ Mg X w0 mb NB' L TP cnt wx ∧ Blk wx rb #[.int .u8 2, .int .u8 0, .int .u8 (p : Nat), .string t, .string k] 49))
  case first =>
    cases htb : NB (.part p) with
    | none =>
      have HN := hide htb
      have HBA := HB1.out.ext0 (Ext.alloc w1 (.map #[] 0))
      have c2 : (w1.alloc (.map #[] 0)).cell? ⟨mb, 32 + p * 132, none⟩ = some (.map (NB (.part p))) := by rw [show 32 + p * 132 = 32 + 132 * p by omega]; exact (HBA.cPart hp16).1
      have f2 : (w1.alloc (.map #[] 0)).frozen? ⟨mb, 32 + p * 132, none⟩ = false := by rw [show 32 + p * 132 = 32 + 132 * p by omega]; exact (HBA.cPart hp16).2
      rw [htb] at c1 c2
      clear htb HBA
      go_wp2_with fail
      go_meet
      case rel =>
        refine ⟨setN NB (.part p) w1.heap.size, w1.heap.size, setN_same _ _ _, ?_, ((HR1.out.alloc _).ext (Ext.set _ _ _) (fun e => rb_mb HB1.out HR1.out e))⟩
        have h9 := HB1.out.mkPart hp16 HN.out
        rw [show 32 + 132 * p = 32 + p * 132 by omega] at h9
        exact h9
    | some pb =>
      have HN := hide htb
      clear htb
      go_wp2_with fail
      go_meet
      case rel => exact ⟨NB, pb, HN.out, HB1.out, HR1.out⟩
  case rest =>
    clear c1 f1 HB1 HR1
    obtain ⟨NB1, pb, hn1, hM1, hR1⟩ := hcut.out
    have k1 : wc.cell? ⟨mb, 32 + p * 132, none⟩ = some (.map (some pb)) := by rw [← hn1, show 32 + p * 132 = 32 + 132 * p by omega]; exact (hM1.cPart hp16).1
    have r3 : wc.cell? ⟨rb, 3, none⟩ = some (.string t) := hR1.cell 3
    have hl : ∀ q, (Instr.lookup 59 (.map (some pb)) (.string t) false).run Yba.prog (wc.drewN q) = .ok ((ptr (NB1 (.tk p t))).getD (.pointer none)) (wc.drewN q) := fun q => (hM1.ext0 (Ext.drewN wc q)).lPart hn1 t ht
    have HM1 := hide hM1
    have HR1 := hide hR1
    have HN1 := hide hn1
    clear hM1 hR1 hn1 hcut
    go_wp2_with fail
    go_quiet (fail)
    have HM2 := hide (HM1.out.ext0 (Ext.drewN wc nq))
    have HR2 := hide (HR1.out.drewN nq)
    clear HM1 HR1 k1 r3 hl
    generalize wc.drewN nq = w2 at HM2 HR2 ⊢
    go_upto_if 70 with fail
    go_cut [7] (fun s7 wx => Hid (∃ NB' kb, s7 = .pointer (some ⟨kb, 0, none⟩) ∧ NB' (.tk p t) = some kb ∧ Mg X w0 mb NB' L TP (cnt + 1) wx ∧ Blk wx rb #[.int .u8 2, .int .u8 0, .int .u8 (p : Nat), .string t, .string k] 49))
    case first =>
      cases hne : NB1 (.tk p t) with
      | some kb =>
        have HE := hide hne
        clear hne
        go_wp2_with fail
        go_meet
        case rel => exact ⟨NB1, kb, rfl, HE.out, HM2.out.up (by omega), HR2.out⟩
      | none =>
        have HE := hide hne
        clear hne
        have r3 : w2.cell? ⟨rb, 3, none⟩ = some (.string t) := HR2.out.cell 3
        go_upto_region 18 with fail
        obtain ⟨w6, hrun, hM6, hg6⟩ := HM2.out.hangK HN1.out t ht HE.out (by omega) (Wd := (w2.alloc (.cells #[.string t, .map none, .map none, .map none, .int .i64 0, .bool false] 109)).drew) (Ext.drewN _ 1)
        have a31 : (w2.alloc (.cells #[.string t, .map none, .map none, .map none, .int .i64 0, .bool false] 109)).drew.cell? ⟨mb, 32 + p * 132, none⟩ = some (.map (some pb)) := by rw [← HN1.out, show 32 + p * 132 = 32 + 132 * p by omega]; exact ((HM2.out.ext0 (ecomp (Ext.alloc w2 _) (Ext.drewN _ 1))).cPart hp16).1
        have a3 : (w2.alloc (.cells #[.string t, .map none, .map none, .map none, .int .i64 0, .bool false] 109)).drew.cell? ⟨rb, 3, none⟩ = some (.string t) := (HR2.out.alloc _).cell 3
        have b31 : w6.cell? ⟨mb, 32 + p * 132, none⟩ = some (.map (some pb)) := by rw [← HN1.out, ← setN_other NB1 (c := .tk p t) w2.heap.size (by simp), show 32 + p * 132 = 32 + 132 * p by omega]; exact (hM6.cPart hp16).1
        have HR6 := hide (((HR2.out.alloc (.cells #[.string t, .map none, .map none, .map none, .int .i64 0, .bool false] 109)).drew).ext (Ext.grown hg6) (fun e => rb_ne HR2.out (HM2.out.ok _ _ HN1.out).2 (Option.some.inj e).symm))
        have b3 : w6.cell? ⟨rb, 3, none⟩ = some (.string t) := HR6.out.cell 3
        have HM6 := hide hM6
        clear hM6 hg6 r3
        generalize w2.alloc (.cells #[.string t, .map none, .map none, .map none, .int .i64 0, .bool false] 109) = w7 at hrun a31 a3 ⊢
        go_region_held3 (fun w' => w'.cell? ⟨mb, 32 + p * 132, none⟩ = some (.map (some pb)) ∧ w'.cell? ⟨rb, 3, none⟩ = some (.string t)) (exact ⟨by assumption, by assumption⟩) (fail)
        all_goals
          go_wp2_with fail
          go_meet
          case rel => exact ⟨_, _, rfl, setN_same NB1 (.tk p t) w2.heap.size, HM6.out, HR6.out⟩
    case rest =>
      clear HM2 HR2 HN1
      obtain ⟨NB2, kb, rfl, hn2, hM2, hR2⟩ := hcut.out
      have k2 : wc.cell? ⟨kb, 1, none⟩ = some (.map (NB2 (.keys p t false))) := (hM2.cTk hn2 false).1
      have r1 : wc.cell? ⟨rb, 1, none⟩ = some (.int .u8 0) := hR2.cell 1
      have HM2 := hide hM2
      have HR2 := hide hR2
      have HN2 := hide hn2
      clear hM2 hR2 hn2 hcut
      go_wp2_with fail
      go_quiet (fail)
      have HM3 := hide (HM2.out.ext0 (Ext.drewN wc nq))
      have HR3 := hide (HR2.out.drewN nq)
      clear HM2 HR2 k2 r1
      generalize wc.drewN nq = w3 at HM3 HR3 ⊢
      go_upto_if 89 with fail
      go_cut [] (fun wx => Hid (∃ NB' qb, NB' (.tk p t) = some kb ∧ NB' (.keys p t false) = some qb ∧ Mg X w0 mb NB' L TP (cnt + 1) wx ∧ Blk wx rb #[.int .u8 2, .int .u8 0, .int .u8 (p : Nat), .string t, .string k] 49))
      case first =>
        cases hne : NB2 (.keys p t false) with
        | some qb =>
          have HE := hide hne
          clear hne
          go_wp2_with fail
          go_meet
          case rel => exact ⟨NB2, qb, HN2.out, HE.out, HM3.out, HR3.out⟩
        | none =>
          have HE := hide hne
          clear hne
          go_wp2_with fail
          have HM4 := hide (HM3.out.ext0 (Ext.drewN w3 1))
          have HR4 := hide (HR3.out.drewN 1)
          have r1 : w3.drew.cell? ⟨rb, 1, none⟩ = some (.int .u8 0) := HR4.out.cell 1
          have r1b : (w3.drew.alloc (.map #[] 0)).cell? ⟨rb, 1, none⟩ = some (.int .u8 0) := (HR4.out.alloc _).cell 1
          have r1c : (w3.alloc (.map #[] 0)).drew.cell? ⟨rb, 1, none⟩ = some (.int .u8 0) := (HR4.out.alloc _).cell 1
          have kc := ((HM4.out.ext0 (Ext.alloc _ (.map #[] 0))).cTk HN2.out false).1
          have kf := ((HM4.out.ext0 (Ext.alloc _ (.map #[] 0))).cTk HN2.out false).2
          have kc2 : (w3.alloc (.map #[] 0)).drew.cell? ⟨kb, 1, none⟩ = some (.map (NB2 (.keys p t false))) := kc
          have kf2 : (w3.alloc (.map #[] 0)).drew.frozen? ⟨kb, 1, none⟩ = false := kf
          have HM5 := hide (HM4.out.mkKeys HN2.out HE.out)
          have HR5 := hide ((HR4.out.alloc (.map #[] 0)).ext (Ext.set _ ⟨kb, 1, none⟩ (.map (some w3.heap.size))) (fun e => rb_ne HR4.out (HM4.out.ok _ _ HN2.out).2 e))
          have r1d := HR5.out.cell 1
          have r1e : ((w3.alloc (.map #[] 0)).drew.setCell ⟨kb, 1, none⟩ (.map (some w3.heap.size))).cell? ⟨rb, 1, none⟩ = some (.int .u8 0) := r1d
          go_region_held3 (fun w' => w'.cell? ⟨rb, 1, none⟩ = some (.int .u8 0)) (first | assumption | exact r1d | exact r1e | go_keep) (fail)
          all_goals
            go_wp2_with fail
            go_meet
            case rel => exact ⟨_, _, (setN_other NB2 (c := .keys p t false) _ (by simp)).trans HN2.out, setN_same NB2 (.keys p t false) w3.heap.size, HM5.out, HR5.out⟩
      case rest =>
        clear HM3 HR3 HN2
        obtain ⟨NB3, qb, hnt3, hnk3, hM3, hR3⟩ := hcut.out
        have k3 : wc.cell? ⟨kb, 1, none⟩ = some (.map (some qb)) := by rw [← hnk3]; exact (hM3.cTk hnt3 false).1
        have r1 : wc.cell? ⟨rb, 1, none⟩ = some (.int .u8 0) := hR3.cell 1
        have r4 : wc.cell? ⟨rb, 4, none⟩ = some (.string k) := hR3.cell 4
        have hl : ∀ q, (Instr.lookup 58 (.map (some qb)) (.string k) false).run Yba.prog (wc.drewN q) = .ok ((ptr (NB3 (.ent (.key false t k)))).getD (.pointer none)) (wc.drewN q) := fun q => (hM3.ext0 (Ext.drewN wc q)).lKeys (by rw [HPP.out]; exact hnk3) hk
        have HM3 := hide hM3
        have HR3 := hide hR3
        have HT3 := hide hnt3
        have HK3 := hide hnk3
        clear hM3 hR3 hnt3 hnk3 hcut
        cases hne : NB3 (.ent (.key false t k)) with
        | some eb =>
          have HE := hide hne
          rw [hne] at hl
          clear hne
          simp only [ptr, Option.map_some, Option.getD_some] at hl
          go_wp2_with fail
          go_quiet (fail)
          go_wp2_with fail
          go_ret
          exact ⟨NB3, eb, rfl, (HM3.out.ext0 (Ext.drewN _ _)).up (by omega), .inr ⟨by simp, HE.out⟩⟩
        | none =>
          have HE := hide hne
          rw [hne] at hl
          clear hne
          simp only [ptr, Option.map_none, Option.getD_none] at hl
          go_wp2_with fail
          go_quiet (fail)
          have HM5 := hide (HM3.out.ext0 (Ext.drewN wc nq))
          have HR5 := hide (HR3.out.drewN nq)
          clear HM3 HR3 k3 r1 r4 hl
          generalize wc.drewN nq = w5 at HM5 HR5 ⊢
          have r0 : w5.cell? ⟨rb, 0, none⟩ = some (.int .u8 2) := HR5.out.cell 0
          have r1 : w5.cell? ⟨rb, 1, none⟩ = some (.int .u8 0) := HR5.out.cell 1
          have r2 : w5.cell? ⟨rb, 2, none⟩ = some (.int .u8 (p : Nat)) := HR5.out.cell 2
          have r3 : w5.cell? ⟨rb, 3, none⟩ = some (.string t) := HR5.out.cell 3
          have r4 : w5.cell? ⟨rb, 4, none⟩ = some (.string k) := HR5.out.cell 4
          go_upto_region 24 with fail
          obtain ⟨w6, hrun, hM6, hg6⟩ := HM5.out.hangE (by rw [HPP.out]; exact HK3.out) hk HE.out (by omega) (Wd := (w5.alloc (.cells (entC (.key false t k)) 57)).drew) (Ext.drewN _ 1)
          have a3 : (w5.alloc (.cells (entC (.key false t k)) 57)).drew.cell? ⟨kb, 1, none⟩ = some (.map (some qb)) := by rw [← HK3.out]; exact ((HM5.out.ext0 (ecomp (Ext.alloc w5 _) (Ext.drewN _ 1))).cTk HT3.out false).1
          have HR6 := hide ((HR5.out.alloc (.cells (entC (.key false t k)) 57)).drew)
          have a1 := HR6.out.cell 1
          have a4 := HR6.out.cell 4
          have HT6 := hide ((setN_other NB3 (c := .ent (.key false t k)) w5.heap.size (show (.tk p t : Nd) ≠ _ by simp)).trans HT3.out)
          have b3 : w6.cell? ⟨kb, 1, none⟩ = some (.map (some qb)) := by rw [← HK3.out, ← setN_other NB3 (c := .ent (.key false t k)) w5.heap.size (show (.keys p t false : Nd) ≠ _ by simp)]; exact (hM6.cTk HT6.out false).1
          have HR7 := hide (HR6.out.ext (Ext.grown hg6) (fun e => rb_ne HR5.out (HM5.out.ok _ _ HK3.out).2 (Option.some.inj e).symm))
          have b1 : w6.cell? ⟨rb, 1, none⟩ = some (.int .u8 0) := HR7.out.cell 1
          have b4 : w6.cell? ⟨rb, 4, none⟩ = some (.string k) := HR7.out.cell 4
          obtain ⟨nv, n1, n2⟩ := hM6.cTkN HT6.out
          have HM6 := hide hM6
          clear hM6 hg6 r0 r1 r2 r3 r4 HR6 HR7
          rw [hEC.out] at hrun a3 a1 a4
          generalize w5.alloc (.cells #[.int .u8 0, .int .u8 0, .int .u8 0, .int .u8 0, .int .u64 0, .int .u64 0, .int .u64 0, .map none, .int .i32 0, .int .i32 0, .int .i32 0, .int .i32 0, .int .i32 0, .int .i32 0, .int .u8 2, .int .u8 0, .int .u8 (p : Nat), .string t, .string k, .pointer none, .slice none 0 0, .slice none 0 0, .slice none 0 0, .slice none 0 0, .slice none 0 0, .slice none 0 0, .slice none 0 0, .chan none, .slice none 0 0, .bool false, .bool false] 57) = w7 at hrun a3 a1 a4 ⊢
          have a1' : w7.drew.cell? ⟨rb, 1, none⟩ = some (.int .u8 0) := a1
          have a4' : w7.drew.cell? ⟨rb, 4, none⟩ = some (.string k) := a4
          clear a1 a4
          go_region_held3 (fun w' => w'.cell? ⟨rb, 1, none⟩ = some (.int .u8 0) ∧ w'.cell? ⟨rb, 4, none⟩ = some (.string k) ∧ w'.cell? ⟨kb, 1, none⟩ = some (.map (some qb))) (exact ⟨by assumption, by assumption, by assumption⟩) (fail)
          all_goals
            go_wp2_with fail
            go_ret
            exact ⟨_, _, rfl, HM6.out.tkN HT6.out _, .inr ⟨by simp, setN_same NB3 (.ent (.key false t k)) w5.heap.size⟩⟩
end
end Go.Proofs.YbulkdtuwC
