import Derived.Test.YbulkdtuwCF1
namespace Go.Proofs.YbulkdtuwC
open Go.RowKit Go.Proofs.YbulkdtuwB RawMap

section
variable {X : Nat → Array Value → TypeId → Prop} {w0 : World} {mb : Nat} {NB : Nd → Option Nat} {L : Rs → List (Nat × Nat)} {TP : Nat → Option Nat} {cnt : Nat} {wr : World}
theorem Mg.cPart2 (h : Mg X w0 mb NB L TP cnt wr) {p : Nat} (hp16 : p < 16) : wr.cell? ⟨mb, 32 + p * 132, none⟩ = some (.map (NB (.part p))) := by
  rw [show 32 + p * 132 = 32 + 132 * p by omega]; exact (h.cPart hp16).1
set_option maxRecDepth 100000 in
set_option maxHeartbeats 4000000 in
theorem findKG_any (h : Mg X w0 mb NB L TP cnt wr) (t k : ByteArray) (ht : t.size ≤ maxLen) (hk : k.size ≤ maxLen) : Calls Yba.prog 45 #[.pointer (some ⟨mb, 0, none⟩), .agg (resC (.key true t k))] wr fun e w' => e = .returned (found mb NB (.key true t k)) ∧ Ext (fun _ => False) wr w' := by
  have HH := hide h
  clear h
  have hq50 := fun w o => eqp50 w o
  have hg50 := fun w o x => eqg 50 w o x
  have hp16 : pn t k < 16 := Nat.mod_lt _ (by omega)
  have hPR := fun a b d e w => partR_any a b d e (pn t k) hp16 w
  simp only [resC, found, if_true]
  generalize hpp : pn t k = p at hPR hp16 ⊢
  have HPP := hide hpp
  clear hpp
  have hp16i : ((p : Nat) : Int) < 16 := by omega
  have hp0i : (0 : Int) ≤ ((p : Nat) : Int) := by omega
  go_enter Yba.func45, Yba.ntmps45
  go_upto_region 6 with fail
  have HB := hide (HH.out.ext0 (Ext.alloc wr (.cells #[.int .u8 2, .int .u8 1, .int .u8 (p : Nat), .string t, .string k] 49)))
  have HR := hide (Blk.new wr #[.int .u8 2, .int .u8 1, .int .u8 (p : Nat), .string t, .string k] 49)
  have HE := hide (Ext.alloc wr (.cells #[.int .u8 2, .int .u8 1, .int .u8 (p : Nat), .string t, .string k] 49))
  generalize wr.alloc (.cells #[.int .u8 2, .int .u8 1, .int .u8 (p : Nat), .string t, .string k] 49) = W at HB HR HE ⊢
  generalize wr.heap.size = rb at HR ⊢
  clear HH
  have r0 : W.drew.cell? ⟨rb, 0, none⟩ = some (.int .u8 2) := HR.out.cell 0
  have r1 : W.drew.cell? ⟨rb, 1, none⟩ = some (.int .u8 1) := HR.out.cell 1
  have r2 : W.drew.cell? ⟨rb, 2, none⟩ = some (.int .u8 (p : Nat)) := HR.out.cell 2
  have r3 : W.drew.cell? ⟨rb, 3, none⟩ = some (.string t) := HR.out.cell 3
  have r4 : W.drew.cell? ⟨rb, 4, none⟩ = some (.string k) := HR.out.cell 4
  have c1 : W.drew.cell? ⟨mb, 32 + p * 132, none⟩ = some (.map (NB (.part p))) := by rw [show 32 + p * 132 = 32 + 132 * p by omega]; exact (HB.out.cPart hp16).1
  go_region_held3 (fun w' => w'.cell? ⟨rb, 0, none⟩ = some (.int .u8 2) ∧ w'.cell? ⟨rb, 1, none⟩ = some (.int .u8 1) ∧ w'.cell? ⟨rb, 2, none⟩ = some (.int .u8 (p : Nat)) ∧ w'.cell? ⟨rb, 3, none⟩ = some (.string t) ∧ w'.cell? ⟨rb, 4, none⟩ = some (.string k) ∧ w'.cell? ⟨mb, 32 + p * 132, none⟩ = some (.map (NB (.part p)))) (exact ⟨by assumption, by assumption, by assumption, by assumption, by assumption, by assumption⟩)
    ((go_at_call 22; refine (hPR _ _ _ _ _).mono ?_; rintro e w1 ⟨rfl, hx1⟩; have HB1 := hide (HB.out.ext0 (ecomp (Ext.drewN W 1) hx1)); have HR1 := hide ((HR.out.drewN 1).ext hx1 id); have HE1 := hide (ecomp HE.out (ecomp (Ext.drewN W 1) hx1)); have s0 : w1.cell? ⟨rb, 0, none⟩ = some (.int .u8 2) := HR1.out.cell 0; have s1 : w1.cell? ⟨rb, 1, none⟩ = some (.int .u8 1) := HR1.out.cell 1; have s2 : w1.cell? ⟨rb, 2, none⟩ = some (.int .u8 (p : Nat)) := HR1.out.cell 2; have s3 : w1.cell? ⟨rb, 3, none⟩ = some (.string t) := HR1.out.cell 3; have s4 : w1.cell? ⟨rb, 4, none⟩ = some (.string k) := HR1.out.cell 4; have t1 : w1.cell? ⟨mb, 32 + p * 132, none⟩ = some (.map (NB (.part p))) := HB1.out.cPart2 hp16; have hl1 := HB1.out.oPart p t ht))
  clear hPR hx1 HB HR HE r0 r1 r2 r3 r4 c1 s0 s2 s3 t1 hl1
  cases hne : NB (.tk p t) with
  | none =>
    have HN : Hid (NB (.ent (.key true t k)) = none) := HB1.out.shut _ _ (.key t k true) (HB1.out.shut _ _ (.keys _ t true) (by rw [HPP.out]; exact hne))
    clear hne
    go_wp2_with fail
    go_ret
    refine ⟨?_, HE1.out⟩
    rw [HN.out]; rfl
  | some kb =>
    have HT := hide hne
    have k2 : w1.cell? ⟨kb, 2, none⟩ = some (.map (NB (.keys p t true))) := (HB1.out.cTk hne true).1
    have hl2 : ∀ q, (Instr.lookup 58 (.map (NB (.keys p t true))) (.string k) false).run Yba.prog (w1.drewN q) = .ok ((ptr (NB (.ent (.key true t k)))).getD (.pointer none)) (w1.drewN q) := fun q => by rw [← HPP.out]; exact (HB1.out.ext0 (Ext.drewN w1 q)).oKeys true t k hk
    have hpe : ptr (some kb) = some (.pointer (some ⟨kb, 0, none⟩)) := rfl
    rw [hpe]
    simp only [Option.getD_some]
    clear hne hpe hq50 hg50
    go_wp2_with fail
    go_quiet (fail)
    go_wp2_with fail
    go_ret
    exact ⟨rfl, ecomp HE1.out (Ext.drewN _ _)⟩
set_option maxRecDepth 100000 in
set_option maxHeartbeats 4000000 in
theorem findKA_any (h : Mg X w0 mb NB L TP cnt wr) (t k : ByteArray) (ht : t.size ≤ maxLen) (hk : k.size ≤ maxLen) : Calls Yba.prog 45 #[.pointer (some ⟨mb, 0, none⟩), .agg (resC (.key false t k))] wr fun e w' => e = .returned (found mb NB (.key false t k)) ∧ Ext (fun _ => False) wr w' := by
  have HH := hide h
  clear h
  have hq50 := fun w o => eqp50 w o
  have hg50 := fun w o x => eqg 50 w o x
  have hp16 : pn t k < 16 := Nat.mod_lt _ (by omega)
  have hPR := fun a b d e w => partR_any a b d e (pn t k) hp16 w
  simp only [resC, found, Bool.false_eq_true, if_false]
  generalize hpp : pn t k = p at hPR hp16 ⊢
  have HPP := hide hpp
  clear hpp
  have hp16i : ((p : Nat) : Int) < 16 := by omega
  have hp0i : (0 : Int) ≤ ((p : Nat) : Int) := by omega
  go_enter Yba.func45, Yba.ntmps45
  go_upto_region 6 with fail
  have HB := hide (HH.out.ext0 (Ext.alloc wr (.cells #[.int .u8 2, .int .u8 0, .int .u8 (p : Nat), .string t, .string k] 49)))
  have HR := hide (Blk.new wr #[.int .u8 2, .int .u8 0, .int .u8 (p : Nat), .string t, .string k] 49)
  have HE := hide (Ext.alloc wr (.cells #[.int .u8 2, .int .u8 0, .int .u8 (p : Nat), .string t, .string k] 49))
  generalize wr.alloc (.cells #[.int .u8 2, .int .u8 0, .int .u8 (p : Nat), .string t, .string k] 49) = W at HB HR HE ⊢
  generalize wr.heap.size = rb at HR ⊢
  clear HH
  have r0 : W.drew.cell? ⟨rb, 0, none⟩ = some (.int .u8 2) := HR.out.cell 0
  have r1 : W.drew.cell? ⟨rb, 1, none⟩ = some (.int .u8 0) := HR.out.cell 1
  have r2 : W.drew.cell? ⟨rb, 2, none⟩ = some (.int .u8 (p : Nat)) := HR.out.cell 2
  have r3 : W.drew.cell? ⟨rb, 3, none⟩ = some (.string t) := HR.out.cell 3
  have r4 : W.drew.cell? ⟨rb, 4, none⟩ = some (.string k) := HR.out.cell 4
  have c1 : W.drew.cell? ⟨mb, 32 + p * 132, none⟩ = some (.map (NB (.part p))) := by rw [show 32 + p * 132 = 32 + 132 * p by omega]; exact (HB.out.cPart hp16).1
  go_region_held3 (fun w' => w'.cell? ⟨rb, 0, none⟩ = some (.int .u8 2) ∧ w'.cell? ⟨rb, 1, none⟩ = some (.int .u8 0) ∧ w'.cell? ⟨rb, 2, none⟩ = some (.int .u8 (p : Nat)) ∧ w'.cell? ⟨rb, 3, none⟩ = some (.string t) ∧ w'.cell? ⟨rb, 4, none⟩ = some (.string k) ∧ w'.cell? ⟨mb, 32 + p * 132, none⟩ = some (.map (NB (.part p)))) (exact ⟨by assumption, by assumption, by assumption, by assumption, by assumption, by assumption⟩)
    ((go_at_call 22; refine (hPR _ _ _ _ _).mono ?_; rintro e w1 ⟨rfl, hx1⟩; have HB1 := hide (HB.out.ext0 (ecomp (Ext.drewN W 1) hx1)); have HR1 := hide ((HR.out.drewN 1).ext hx1 id); have HE1 := hide (ecomp HE.out (ecomp (Ext.drewN W 1) hx1)); have s0 : w1.cell? ⟨rb, 0, none⟩ = some (.int .u8 2) := HR1.out.cell 0; have s1 : w1.cell? ⟨rb, 1, none⟩ = some (.int .u8 0) := HR1.out.cell 1; have s2 : w1.cell? ⟨rb, 2, none⟩ = some (.int .u8 (p : Nat)) := HR1.out.cell 2; have s3 : w1.cell? ⟨rb, 3, none⟩ = some (.string t) := HR1.out.cell 3; have s4 : w1.cell? ⟨rb, 4, none⟩ = some (.string k) := HR1.out.cell 4; have t1 : w1.cell? ⟨mb, 32 + p * 132, none⟩ = some (.map (NB (.part p))) := HB1.out.cPart2 hp16; have hl1 := HB1.out.oPart p t ht))
  clear hPR hx1 HB HR HE r0 r1 r2 r3 r4 c1 s0 s2 s3 t1 hl1
  cases hne : NB (.tk p t) with
  | none =>
    have HN : Hid (NB (.ent (.key false t k)) = none) := HB1.out.shut _ _ (.key t k false) (HB1.out.shut _ _ (.keys _ t false) (by rw [HPP.out]; exact hne))
    clear hne
    go_wp2_with fail
    go_ret
    refine ⟨?_, HE1.out⟩
    rw [HN.out]; rfl
  | some kb =>
    have HT := hide hne
    have k2 : w1.cell? ⟨kb, 1, none⟩ = some (.map (NB (.keys p t false))) := (HB1.out.cTk hne false).1
    have hl2 : ∀ q, (Instr.lookup 58 (.map (NB (.keys p t false))) (.string k) false).run Yba.prog (w1.drewN q) = .ok ((ptr (NB (.ent (.key false t k)))).getD (.pointer none)) (w1.drewN q) := fun q => by rw [← HPP.out]; exact (HB1.out.ext0 (Ext.drewN w1 q)).oKeys false t k hk
    have hpe : ptr (some kb) = some (.pointer (some ⟨kb, 0, none⟩)) := rfl
    rw [hpe]
    simp only [Option.getD_some]
    clear hne hpe hq50 hg50
    go_wp2_with fail
    go_quiet (fail)
    go_wp2_with fail
    go_ret
    exact ⟨rfl, ecomp HE1.out (Ext.drewN _ _)⟩

/-- the strings of a resource are no longer than a length can be -/
def Rs.fit : Rs → Prop
  | .store => True
  | .tab t => t.size ≤ maxLen
  | .key _ t k => t.size ≤ maxLen ∧ k.size ≤ maxLen
theorem find_any (h : Mg X w0 mb NB L TP cnt wr) (r : Rs) (hr : r.fit) : Calls Yba.prog 45 #[.pointer (some ⟨mb, 0, none⟩), .agg (resC r)] wr fun e w' => e = .returned (found mb NB r) ∧ Ext (fun _ => False) wr w' := by
  cases r with
  | store => exact findS_any mb NB wr
  | tab t => exact findT_any h t hr
  | key g t k =>
    cases g with
    | true => exact findKG_any h t k hr.1 hr.2
    | false => exact findKA_any h t k hr.1 hr.2
theorem entry_any (h : Mg X w0 mb NB L TP cnt wr) (r : Rs) (hr : r.fit) (hcnt : cnt + 2 < maxLen) : Calls Yba.prog 13 #[.pointer (some ⟨mb, 0, none⟩), .agg (resC r)] wr (EPost X w0 mb L TP (cnt + 1) r) := by
  cases r with
  | store => exact (entS_any h).mono (fun e w' ⟨NB', b, h1, h2, h3⟩ => ⟨NB', b, h1, h2.up (by omega), h3⟩)
  | tab t => exact (entT_any h t hr (by omega)).mono (fun e w' ⟨NB', b, h1, h2, h3⟩ => ⟨NB', b, h1, h2.up (by omega), h3⟩)
  | key g t k =>
    cases g with
    | true => exact entKG_any h t k hr.1 hr.2 hcnt
    | false => exact entKA_any h t k hr.1 hr.2 hcnt
end
end Go.Proofs.YbulkdtuwC
