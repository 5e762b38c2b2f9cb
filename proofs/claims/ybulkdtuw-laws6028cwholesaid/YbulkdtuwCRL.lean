import Derived.Test.YbulkdtuwCG4
import Derived.Deep.RegionLaw
import Derived.Deep.AppendLies
namespace Go.Proofs.YbulkdtuwC
open Go.RowKit

section
variable {P : Program} {ops : Array Oper} {Q : Exit → Act → World → Prop} {md : Region.Mode} {S : World → Prop} {st : Nat}

/-- whatever order is picked, and S holds behind every operation till number 'st' has come up -/
def wpTill (P : Program) (md : Region.Mode) (ops : Array Oper) (Q : Exit → Act → World → Prop) (S : World → Prop) (st : Nat) : Nat → Array Bool → Act → World → Prop
  | 0, l, a, w => Region.ready md ops l = [] ∧ Q .normal a w
  | f + 1, l, a, w => (Region.ready md ops l = [] → Q .normal a w) ∧
    ∀ i ∈ Region.ready md ops l, wpOp P ops Q i (fun a' w' => ((l.setIfInBounds i true).getD st true = true ∨ S w') ∧ wpTill P md ops Q S st f (l.setIfInBounds i true) a' w') a w

theorem wpAny_of_till : ∀ (f : Nat) (l : Array Bool) (a : Act) (w : World), wpTill P md ops Q S st f l a w → wpAny P md ops Q f l a w
  | 0, _, _, _, h => h
  | f + 1, _, _, _, h => ⟨h.1, fun i hi => wpOp_mono (fun a' w' h' => wpAny_of_till f _ a' w' h'.2) (h.2 i hi)⟩

/-- number i may be taken first: number 'st' waits for it -/
theorem wpTill_first {i : Nat} {oi os : Oper} {v : Value} (hi : ops[i]? = some oi) (hos : ops[st]? = some os) (hw8 : os.after.any (fun e => Region.binds md e && e.on == i) = true)
    (hsel : ∀ (j : Nat) (o : Oper) cs b, ops[j]? = some o → o.op ≠ .select cs b) (hQ : ∀ c a w, Q (.panic c) (a.put oi.dst v) w → Q (.panic c) a w) :
    ∀ (f : Nat) (l : Array Bool) (a : Act) (w : World), l.getD st true = false →
      (∀ j oj, ops[j]? = some oj → j ≠ i → l.getD j true = false → (∀ e ∈ oj.after, Region.binds md e = true → e.on ≠ i) → oi.apart ops oj = true) →
      i ∈ Region.ready md ops l → YieldsIf P ops S oi v a → S w →
      wpTill P md ops Q S st f (l.setIfInBounds i true) (a.put oi.dst v) w → wpTill P md ops Q S st (f + 1) l a w := by
  intro f
  induction f with
  | zero =>
    intro l a w _ _ hr hy hS H
    refine ⟨fun h => (by rw [h] at hr; cases hr), fun j hj => ?_⟩
    by_cases hji : j = i
    · subst hji; exact hy.wpOp hi hS ⟨.inr hS, H⟩
    · have := ready_mono hj hji
      rw [H.1] at this
      cases this
  | succ f ih =>
    intro l a w hst hfree hr hy hS H
    refine ⟨fun h => (by rw [h] at hr; cases hr), fun j hj => ?_⟩
    by_cases hji : j = i
    · subst hji; exact hy.wpOp hi hS ⟨.inr hS, H⟩
    · have h1 := H.2 j (ready_mono hj hji)
      obtain ⟨hjun, oj, hoj, hall⟩ := mem_ready.1 hj
      have hnot : ∀ e ∈ oj.after, Region.binds md e = true → e.on ≠ i := fun e he hb heq => by
        have h1 := hall e he hb
        have h0 := (mem_ready.1 hr).1
        rw [heq] at h1
        rcases Nat.lt_or_ge i l.size with h' | h'
        · simp [h'] at h0 h1; rw [h0] at h1; cases h1
        · simp [Array.getElem?_eq_none h'] at h1
      have hjst : j ≠ st := by
        rintro rfl
        rw [hos] at hoj
        injection hoj with hoj
        subst hoj
        rw [Array.any_eq_true] at hw8
        obtain ⟨k, hk, hb⟩ := hw8
        simp only [Bool.and_eq_true, beq_iff_eq] at hb
        exact hnot _ (Array.getElem_mem hk) hb.1 hb.2
      have hist : i ≠ st := by
        rintro rfl
        rw [hos] at hi
        injection hi with hi
        subst hi
        rw [Array.any_eq_true] at hw8
        obtain ⟨k, hk, hb⟩ := hw8
        simp only [Bool.and_eq_true, beq_iff_eq] at hb
        obtain ⟨hun, o', ho', hal⟩ := mem_ready.1 hr
        rw [hos] at ho'
        injection ho' with ho'
        subst ho'
        have h5 := hal _ (Array.getElem_mem hk) hb.1
        rw [hb.2] at h5
        rcases Nat.lt_or_ge i l.size with h' | h'
        · simp [h'] at hun h5; rw [hun] at h5; cases h5
        · simp [Array.getElem?_eq_none h'] at h5
      have h2 := wpOp_putIf hoj (hfree j oj hoj hji hjun hnot) (fun cs b => hsel i oi cs b hi) (fun cs b => hsel j oj cs b hoj) hQ hy h1
      have hfree' : ∀ k ok, ops[k]? = some ok → k ≠ i → (l.setIfInBounds j true).getD k true = false →
          (∀ e ∈ ok.after, Region.binds md e = true → e.on ≠ i) → oi.apart ops ok = true := fun k ok hk hki hun hno => by
        refine hfree k ok hk hki ?_ hno
        by_cases hjk : j = k
        · subst hjk; exact hjun
        · rw [getD_set_ne true hjk] at hun; exact hun
      have hst' : (l.setIfInBounds j true).getD st true = false := by rw [getD_set_ne true hjst]; exact hst
      have hst2 : ((l.setIfInBounds i true).setIfInBounds j true).getD st true = false := by rw [getD_set_ne true hjst, getD_set_ne true hist]; exact hst
      refine wpOp_mono (fun a' w' h3 => ?_) h2
      have hS' : S w' := by
        rcases h3.2.1 with h | h
        · rw [hst2] at h; cases h
        · exact h
      refine ⟨.inr hS', ih (l.setIfInBounds j true) a' w' hst' hfree' (ready_mono hr (Ne.symm hji)) h3.1 hS' ?_⟩
      rw [Array.setIfInBounds_comm _ _ hji]
      exact h3.2.2

theorem wpTill_take {i : Nat} {oi os : Oper} {v : Value} {f : Nat} {l : Array Bool} {a : Act} {w : World} (hi : ops[i]? = some oi) (hos : ops[st]? = some os) (hw8 : os.after.any (fun e => Region.binds md e && e.on == i) = true)
    (hs : Region.noSelect ops = true) (hf : Region.free md ops l i = true) (hr : (Region.ready md ops l).contains i = true) (hst : l.getD st true = false)
    (hQ : ∀ c a w, Q (.panic c) (a.put oi.dst v) w → Q (.panic c) a w) (hy : YieldsIf P ops S oi v a) (hS : S w)
    (h : wpTill P md ops Q S st f (l.setIfInBounds i true) (a.put oi.dst v) w) : wpTill P md ops Q S st (f + 1) l a w :=
  wpTill_first hi hos hw8 (Region.noSelect_spec hs) hQ f l a w hst (Region.free_spec hi hf) (by simpa using hr) hy hS h

/-- each of the operations 'rs' comes up next -/
def AllTill (P : Program) (md : Region.Mode) (ops : Array Oper) (Q : Exit → Act → World → Prop) (S : World → Prop) (st f : Nat) (l : Array Bool) (a : Act) (w : World) (rs : List Nat) : Prop :=
  ∀ i ∈ rs, wpOp P ops Q i (fun a' w' => ((l.setIfInBounds i true).getD st true = true ∨ S w') ∧ wpTill P md ops Q S st f (l.setIfInBounds i true) a' w') a w
theorem AllTill.nil {f : Nat} {l : Array Bool} {a : Act} {w : World} : AllTill P md ops Q S st f l a w [] := fun _ h => by cases h
theorem AllTill.cons {f : Nat} {l : Array Bool} {a : Act} {w : World} {i : Nat} {o : Oper} {rs : List Nat} (ho : ops[i]? = some o)
    (h : ∀ K' : Act → World → Prop, Shut (∀ a w, ((l.setIfInBounds i true).getD st true = true ∨ S w) → wpTill P md ops Q S st f (l.setIfInBounds i true) a w → K' a w) → if Region.wanted o (yielded ops a.tmps) = true then Oper.wp P o a w K' Q else K' (a.put o.dst undef) w)
    (hs : AllTill P md ops Q S st f l a w rs) : AllTill P md ops Q S st f l a w (i :: rs) := fun j hj => by
  rcases List.mem_cons.1 hj with rfl | hj
  · exact wpOp_step ho (fun K' hK' => h K' (fun a w h1 h2 => hK' a w ⟨h1, h2⟩))
  · exact hs j hj
theorem wpTill_ready {rs : List Nat} {f : Nat} {l : Array Bool} {a : Act} {w : World} (hr : Region.ready md ops l = rs) (hne : rs ≠ []) (h : AllTill P md ops Q S st f l a w rs) : wpTill P md ops Q S st (f + 1) l a w :=
  ⟨fun h0 => absurd (hr ▸ h0) hne, hr ▸ h⟩
theorem wpTill_done {l : Array Bool} {a : Act} {w : World} (hr : Region.ready md ops l = []) (h : Q .normal a w) : ∀ f, wpTill P md ops Q S st f l a w
  | 0 => ⟨hr, h⟩
  | _ + 1 => ⟨fun _ => h, by rw [hr]; simp⟩

/-- an operation without its edges and its place -/
def trim (o : Oper) : Oper := { o with after := #[], pos := "" }
theorem trim_wp {o : Oper} {a : Act} {w : World} {K : Act → World → Prop} : Oper.wp P (trim o) a w K Q = Oper.wp P o a w K Q := by cases o; rfl
theorem trim_exec {o : Oper} {f : Operand → Value} : execOp f (trim o) = execOp f o := by cases o; rfl
theorem trim_of {i : Nat} {o : Oper} (h : (ops[i]?).map trim = some o) : ∃ o', ops[i]? = some o' ∧ o = trim o' := by
  cases h' : ops[i]? with
  | none => rw [h'] at h; cases h
  | some o' => rw [h'] at h; injection h with h; exact ⟨o', rfl, h.symm⟩
theorem takeP {i : Nat} {o : Oper} (v : Value) {f : Nat} {l : Array Bool} {a : Act} {w : World} (ho : (ops[i]?).map trim = some o) (hg : o.guard = none)
    (hs : Region.noSelect ops = true) (hf : Region.free md ops l i = true) (hr : (Region.ready md ops l).contains i = true)
    (hQ : ∀ c a w, Q (.panic c) (a.put o.dst v) w → Q (.panic c) a w) (hy : ∀ w, (execOp a.eval o).run P w = .ok (.value v) w)
    (h : wpAny P md ops Q f (l.setIfInBounds i true) (a.put o.dst v) w) : wpAny P md ops Q (f + 1) l a w := by
  obtain ⟨o', h1, rfl⟩ := trim_of ho
  exact wpAny_take h1 hs hf hr hQ (.inl ⟨by simp only [Region.wanted]; rw [show o'.guard = none from hg], fun w => by rw [← trim_exec]; exact hy w⟩) h
theorem takeL {i : Nat} {o os : Oper} (v : Value) {f : Nat} {l : Array Bool} {a : Act} {w : World} (ho : (ops[i]?).map trim = some o) (hg : o.guard = none) (hos : ops[st]? = some os) (hw8 : os.after.any (fun e => Region.binds md e && e.on == i) = true)
    (hs : Region.noSelect ops = true) (hf : Region.free md ops l i = true) (hr : (Region.ready md ops l).contains i = true) (hst : l.getD st true = false)
    (hQ : ∀ c a w, Q (.panic c) (a.put o.dst v) w → Q (.panic c) a w) (hy : ∀ w, S w → (execOp a.eval o).run P w = .ok (.value v) w) (hS : S w)
    (h : wpTill P md ops Q S st f (l.setIfInBounds i true) (a.put o.dst v) w) : wpTill P md ops Q S st (f + 1) l a w := by
  obtain ⟨o', h1, rfl⟩ := trim_of ho
  exact wpTill_take h1 hos hw8 hs hf hr hst hQ (.inl ⟨by simp only [Region.wanted]; rw [show o'.guard = none from hg], fun w hw => by rw [← trim_exec]; exact hy w hw⟩) hS h
theorem AllTill.consT {f : Nat} {l : Array Bool} {a : Act} {w : World} {i : Nat} {o : Oper} {rs : List Nat} (ho : (ops[i]?).map trim = some o) (hg : o.guard = none)
    (h : ∀ K' : Act → World → Prop, Shut (∀ a w, ((l.setIfInBounds i true).getD st true = true ∨ S w) → wpTill P md ops Q S st f (l.setIfInBounds i true) a w → K' a w) → if Region.wanted o (yielded ops a.tmps) = true then Oper.wp P o a w K' Q else K' (a.put o.dst undef) w)
    (hs : AllTill P md ops Q S st f l a w rs) : AllTill P md ops Q S st f l a w (i :: rs) := by
  obtain ⟨o', h1, rfl⟩ := trim_of ho
  refine AllTill.cons h1 (fun K' hK' => ?_) hs
  have := h K' hK'
  rw [trim_wp] at this
  exact this
end
end Go.Proofs.YbulkdtuwC
