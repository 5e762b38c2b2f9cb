import Derived.Maps.Own
import Derived.Maps.OwnOps
import Derived.Maps.Views
import Derived.Maps.Ext
import Derived.WalkKit
namespace Go.Proofs.RawMap
open Go.RowKit

/-- an element read as itself -/
def RV (v : Value) : Option (DataW Value × List MemPlace) := some (.held v, [])

/-- what a map holds at a key, as a datum -/
def sel (f : Lit → Option Value) (kl : Lit) (zd : DataW Value) : DataW Value := match f kl with | some v => .held v | none => zd

/-- block b is a map of at most n entries, that holds f -/
def Mp (P : Program) (k : TypeId) (w : World) (b n : Nat) (f : Lit → Option Value) : Prop :=
  ∃ D, w.ownsMap P k RV b n D ∧ Maps.IsMap D ∧ ∀ kl zd, D.atKey kl zd = sel f kl zd

section
variable {P : Program} {k : TypeId} {w w' : World} {b n : Nat} {f : Lit → Option Value}

theorem Mp.lt (h : Mp P k w b n f) : b < w.heap.size := by
  obtain ⟨D, h, _⟩ := h
  exact h.lt
theorem Mp.mono (h : Mp P k w b n f) {m : Nat} (hm : n ≤ m) : Mp P k w b m f := by
  obtain ⟨D, h1, h2⟩ := h
  exact ⟨D, h1.mono hm, h2⟩
theorem Mp.of (h : Mp P k w b n f) (e : w'.heap[b]? = w.heap[b]?) : Mp P k w' b n f := by
  obtain ⟨D, ⟨es, c, h1, h2⟩, h3⟩ := h
  exact ⟨D, ⟨es, c, e.trans h1, h2⟩, h3⟩
theorem Mp.made (P : Program) (k : TypeId) (w : World) : Mp P k (w.alloc (.map #[] 0)) w.heap.size 0 (fun _ => none) := by
  refine ⟨_, w.ownsMap_made P k RV, Maps.isMap_empty, fun kl zd => rfl⟩

theorem Mp.look (h : Mp P k w b n f) (K : Maps.Keyed P k) {t e : TypeId} (ht : P.underlying t = some (.map k e)) {z : Value} (hz : (zeroValue e).run P w = .ok z w) {key : Value} {kl : Lit} (hkey : keyOf P k key = some kl) :
    (Instr.lookup t (.map (some b)) key false).run P w = .ok ((f kl).getD z) w := by
  obtain ⟨D, h1, _, h3⟩ := h
  obtain ⟨v, ps, hrun, hv⟩ := h1.lookup K ht hz (zd := .held z) (zp := []) rfl hkey
  rw [h3 kl] at hv
  unfold RV sel at hv
  cases hf : f kl with
  | none => rw [hf] at hv; simp at hv; rw [hrun, hv.1]; rfl
  | some u => rw [hf] at hv; simp at hv; rw [hrun, hv.1]; rfl

theorem Mp.lookOk (h : Mp P k w b n f) (K : Maps.Keyed P k) {t e : TypeId} (ht : P.underlying t = some (.map k e)) {z : Value} (hz : (zeroValue e).run P w = .ok z w) {key : Value} {kl : Lit} (hkey : keyOf P k key = some kl) :
    (Instr.lookup t (.map (some b)) key true).run P w = .ok (.tuple #[(f kl).getD z, .bool (f kl).isSome]) w := by
  obtain ⟨D, ⟨es, clock, hb, F, hs, rfl⟩, _, h3⟩ := h
  rcases Maps.fit_look true K ht hz hb F hkey with ⟨hrun, _, hat⟩ | ⟨e0, y, _, _, hrun, hRv, hat, _⟩
  · have h1 := hat (.held z)
    have h2 := hat .nil
    rw [h3 kl] at h1 h2
    unfold sel at h1 h2
    cases hf : f kl with
    | none => rw [hrun]; rfl
    | some u => rw [hf] at h2; simp at h2
  · have h1 := hat .nil
    rw [h3 kl] at h1
    unfold sel at h1
    unfold RV at hRv
    simp at hRv
    subst hRv
    cases hf : f kl with
    | none => rw [hf] at h1; simp at h1
    | some u => rw [hf] at h1; simp at h1; rw [hrun, h1]; rfl

open Classical in
noncomputable def upd (f : Lit → Option Value) (kl : Lit) (v : Value) : Lit → Option Value := fun x => if x = kl then some v else f x
theorem upd_same (f : Lit → Option Value) (kl : Lit) (v : Value) : upd f kl v kl = some v := by simp [upd]
theorem upd_other (f : Lit → Option Value) {kl x : Lit} (v : Value) (h : x ≠ kl) : upd f kl v x = f x := by simp [upd, h]

theorem Mp.put (h : Mp P k w b n f) (K : Maps.Keyed P k) {t e : TypeId} (ht : P.underlying t = some (.map k e)) (hn : n < maxLen) {key val : Value} {kl : Lit} (hkey : keyOf P k key = some kl) :
    ∃ w', (Instr.mapUpdate t (.map (some b)) key val).run P w = .ok () w' ∧ Mp P k w' b (n + 1) (upd f kl val) ∧ w.grownBy w' (some b) := by
  obtain ⟨D, h1, h2, h3⟩ := h
  obtain ⟨w', hrun, ho, hg⟩ := h1.update K ht hn hkey (d := .held val) (ps := []) rfl
  refine ⟨w', hrun, ⟨_, ho, h2.put _ _, fun x zd => ?_⟩, hg⟩
  unfold sel
  by_cases hx : x = kl
  · subst hx
    rw [Maps.atKey_put_same h2 (K.key hkey), upd_same]
  · rw [Maps.atKey_put_other hx, h3, upd_other _ _ hx]
    rfl
end

theorem wpList_mapUpdate_raw {P : Program} {w : World} {ops : Array Oper} {rest : List Oper} {o : Oper} {a : Act} {Q : Exit → Act → World → Prop}
    (hg : o.guard = none) (m x v : Operand) (t : TypeId) (hop : o.op = Op.mapUpdate t m x v)
    (k e : TypeId) (K : Maps.Keyed P k) (ht : P.underlying t = some (.map k e)) (b n : Nat) (f : Lit → Option Value)
    (hm : a.eval m = .map (some b)) (hown : Mp P k w b n f) (hn : n < maxLen) (key val : Value) (kl : Lit) (hx : a.eval x = key) (hv : a.eval v = val) (hkey : keyOf P k key = some kl)
    (hK : ∀ w', Mp P k w' b (n + 1) (upd f kl val) → w.grownBy w' (some b) → wpList P ops Q rest (a.put o.dst undef) w') :
    wpList P ops Q (o :: rest) a w := by
  refine wpList_plain hg fun K' hK' => ?_
  obtain ⟨w', hrun, r1, r2⟩ := hown.put K ht hn hkey (val := val)
  unfold Oper.wp
  simp [execOp, hop, hm, hx, hv, hrun, Result.andThen]
  exact hK' _ _ (hK w' r1 r2)
end Go.Proofs.RawMap
