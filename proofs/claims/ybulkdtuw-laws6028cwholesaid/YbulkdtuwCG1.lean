import Derived.Test.YbulkdtuwCW1
namespace Go.Proofs.YbulkdtuwC
open Go.RowKit Go.Proofs.YbulkdtuwB RawMap

/-- the objects that a Manager's state is made of, beside the Manager itself -/
inductive Nd where
  | tabs
  | part (p : Nat)
  | tk (p : Nat) (t : ByteArray)
  | keys (p : Nat) (t : ByteArray) (g : Bool)
  | ent (r : Rs)
  | more (r : Rs)
  deriving DecidableEq

/-- c lies directly under n -/
inductive Ch : Nd → Nd → Prop where
  | tab (t : ByteArray) : Ch .tabs (.ent (.tab t))
  | tk (p : Nat) (t : ByteArray) : Ch (.part p) (.tk p t)
  | keys (p : Nat) (t : ByteArray) (g : Bool) : Ch (.tk p t) (.keys p t g)
  | key (t k : ByteArray) (g : Bool) : Ch (.keys (pn t k) t g) (.ent (.key g t k))
  | more (r : Rs) (h : r ≠ .store) : Ch (.ent r) (.more r)
theorem Ch.one {n m c : Nd} (h : Ch n c) (k : Ch m c) : m = n := by cases h <;> cases k <;> rfl
theorem Ch.no {n c : Nd} (h : Ch n c) : n ≠ c := by cases h <;> simp

def ptr (o : Option Nat) : Option Value := o.map (fun b => .pointer (some ⟨b, 0, none⟩))
def strK (f : ByteArray → Option Value) : Lit → Option Value
  | .string l => f ⟨l.toArray⟩
  | _ => none
def intK (f : Int → Option Value) : Lit → Option Value
  | .int .u64 x => f x
  | _ => none
/-- the mode that tx holds -/
def look (L : List (Nat × Nat)) (x : Int) : Option Nat := (L.find? (fun e => decide ((e.1 : Int) = x))).map (·.2)

/-- the first eight cells of an entry: what is granted -/
def Gr (arr : Array Value) (L : List (Nat × Nat)) (mo : Option Nat) : Prop :=
  8 ≤ arr.size ∧ arr[0]? = some (.int .u8 (min 3 L.length : Nat)) ∧ (∀ i (h : i < L.length), i < 3 → arr[1 + i]? = some (.int .u8 (L[i].2 : Nat)) ∧ arr[4 + i]? = some (.int .u64 (L[i].1 : Nat))) ∧
  arr[7]? = some (.map mo) ∧ (mo = none → L.length ≤ 3)

/-- what stands in the block of one of them -/
def Ok (NB : Nd → Option Nat) (L : Rs → List (Nat × Nat)) (cnt : Nat) (wr : World) : Nd → Nat → Prop
  | .tabs, b => Mp Yba.prog 9 wr b cnt (strK fun s => ptr (NB (.ent (.tab s))))
  | .part p, b => Mp Yba.prog 9 wr b cnt (strK fun s => ptr (NB (.tk p s)))
  | .tk p t, b => ∃ nm nv cv, Blk wr b #[nm, .map (NB (.keys p t false)), .map (NB (.keys p t true)), .map none, .int .i64 nv, cv] 109
  | .keys p t g, b => Mp Yba.prog 9 wr b cnt (strK fun s => if pn t s = p then ptr (NB (.ent (.key g t s))) else none)
  | .ent r, b => ∃ arr, Blk wr b arr 57 ∧ arr.size = 31 ∧ Gr arr (L r) (NB (.more r))
  | .more r, b => Mp Yba.prog 41 wr b cnt (intK fun x => (look ((L r).drop 3) x).map (fun m => .int .u8 (m : Nat)))

def MBlk (NB : Nd → Option Nat) (L : Rs → List (Nat × Nat)) (TP : Nat → Option Nat) (wr : World) (mb : Nat) : Prop :=
  ∃ arr, Blk wr mb arr 79 ∧ arr.size = 3202 ∧ Gr arr (L .store) (NB (.more .store)) ∧ arr[31]? = some (.map (NB .tabs)) ∧ (∀ p, p < 16 → arr[32 + 132 * p]? = some (.map (NB (.part p)))) ∧ ∀ p, p < 16 → arr[2144 + 66 * p]? = some (.map (TP p))

theorem Mp.notcells {P : Program} {k : TypeId} {w : World} {b n : Nat} {f : Lit → Option Value} (h : Mp P k w b n f) {g : Nat} {c : Array Value} {t : TypeId} (hb : Blk w g c t) : g ≠ b := by
  rintro rfl
  obtain ⟨D, ⟨es, cl, h1, _⟩, _⟩ := h
  unfold Blk at hb
  rw [hb] at h1
  cases h1

section
variable {NB : Nd → Option Nat} {L : Rs → List (Nat × Nat)} {TP : Nat → Option Nat} {cnt : Nat} {wr : World} {n : Nd} {b : Nat}

theorem Ok.lt (h : Ok NB L cnt wr n b) : b < wr.heap.size := by
  cases n with
  | tabs => exact RawMap.Mp.lt h
  | part p => exact RawMap.Mp.lt h
  | tk p t => obtain ⟨_, _, _, h⟩ := h; exact h.lt
  | keys p t g => exact RawMap.Mp.lt h
  | ent r => obtain ⟨_, h, _⟩ := h; exact h.lt
  | more r => exact RawMap.Mp.lt h
theorem Ok.notMb (h : Ok NB L cnt wr n b) {mb : Nat} {c : Array Value} (hm : Blk wr mb c 79) : mb ≠ b := by
  cases n with
  | tabs => exact Mp.notcells h hm
  | part p => exact Mp.notcells h hm
  | tk p t => obtain ⟨_, _, _, h⟩ := h; exact hm.ne h (by decide)
  | keys p t g => exact Mp.notcells h hm
  | ent r => obtain ⟨_, h, _⟩ := h; exact hm.ne h (by decide)
  | more r => exact Mp.notcells h hm
theorem Ok.of (h : Ok NB L cnt wr n b) {w' : World} (e : w'.heap[b]? = wr.heap[b]?) : Ok NB L cnt w' n b := by
  cases n with
  | tabs => exact RawMap.Mp.of h e
  | part p => exact RawMap.Mp.of h e
  | tk p t => obtain ⟨x, y, z, h⟩ := h; exact ⟨x, y, z, h.of e⟩
  | keys p t g => exact RawMap.Mp.of h e
  | ent r => obtain ⟨x, h, h2⟩ := h; exact ⟨x, h.of e, h2⟩
  | more r => exact RawMap.Mp.of h e
theorem Ok.ext (h : Ok NB L cnt wr n b) {w' : World} {ex : Nat → Prop} (e : Ext ex wr w') (hn : ¬ ex b) : Ok NB L cnt w' n b := h.of (e.block b h.lt hn)
theorem Ok.mono (h : Ok NB L cnt wr n b) {c' : Nat} (hc : cnt ≤ c') : Ok NB L c' wr n b := by
  cases n with
  | tabs => exact RawMap.Mp.mono h hc
  | part p => exact RawMap.Mp.mono h hc
  | tk p t => exact h
  | keys p t g => exact RawMap.Mp.mono h hc
  | ent r => exact h
  | more r => exact RawMap.Mp.mono h hc
theorem Ok.congr (h : Ok NB L cnt wr n b) {NB' : Nd → Option Nat} {L' : Rs → List (Nat × Nat)} (hN : ∀ c, Ch n c → NB' c = NB c) (hS : n = .ent .store → NB' (.more .store) = NB (.more .store)) (hL : ∀ r, (n = .ent r → L' r = L r) ∧ (n = .more r → (L' r).drop 3 = (L r).drop 3)) : Ok NB' L' cnt wr n b := by
  cases n with
  | tabs =>
    have : (strK fun s => ptr (NB' (.ent (.tab s)))) = strK fun s => ptr (NB (.ent (.tab s))) := by congr; funext s; rw [hN _ (.tab s)]
    show Mp _ _ _ _ _ _
    rw [this]; exact h
  | part p =>
    have : (strK fun s => ptr (NB' (.tk p s))) = strK fun s => ptr (NB (.tk p s)) := by congr; funext s; rw [hN _ (.tk p s)]
    show Mp _ _ _ _ _ _
    rw [this]; exact h
  | tk p t =>
    obtain ⟨x, y, z, h⟩ := h
    exact ⟨x, y, z, by rw [hN _ (.keys p t false), hN _ (.keys p t true)]; exact h⟩
  | keys p t g =>
    have : (strK fun s => if pn t s = p then ptr (NB' (.ent (.key g t s))) else none) = strK fun s => if pn t s = p then ptr (NB (.ent (.key g t s))) else none := by
      congr; funext s
      by_cases hp : pn t s = p
      · rw [if_pos hp, if_pos hp, hN _ (by rw [← hp]; exact .key t s g)]
      · rw [if_neg hp, if_neg hp]
    show Mp _ _ _ _ _ _
    rw [this]; exact h
  | ent r =>
    obtain ⟨x, h1, h2, h3⟩ := h
    refine ⟨x, h1, h2, ?_⟩
    rw [(hL r).1 rfl]
    by_cases hr : r = .store
    · subst hr; rw [hS rfl]; exact h3
    · rw [hN _ (.more r hr)]; exact h3
  | more r =>
    show Mp _ _ _ _ _ _
    rw [(hL r).2 rfl]; exact h
end

/-- the Manager's state in memory -/
structure Mg (X : Nat → Array Value → TypeId → Prop) (w0 : World) (mb : Nat) (NB : Nd → Option Nat) (L : Rs → List (Nat × Nat)) (TP : Nat → Option Nat) (cnt : Nat) (wr : World) : Prop where
  ext : Ext (fun _ => False) w0 wr
  mbf : w0.heap.size ≤ mb
  mblk : MBlk NB L TP wr mb
  ok : ∀ n b, NB n = some b → w0.heap.size ≤ b ∧ Ok NB L cnt wr n b
  inj : ∀ n n' b, NB n = some b → NB n' = some b → n = n'
  shut : ∀ n c, Ch n c → NB n = none → NB c = none
  lnil : ∀ r, r ≠ .store → NB (.ent r) = none → L r = []
  entS : NB (.ent .store) = none
  extra : ∀ q c ty, X q c ty → Blk wr q c ty ∧ ty ≠ 79 ∧ ty ≠ 57 ∧ ty ≠ 109

def setN (NB : Nd → Option Nat) (c : Nd) (b : Nat) : Nd → Option Nat := fun x => if x = c then some b else NB x
theorem setN_same (NB : Nd → Option Nat) (c : Nd) (b : Nat) : setN NB c b c = some b := by simp [setN]
theorem setN_other (NB : Nd → Option Nat) {c x : Nd} (b : Nat) (h : x ≠ c) : setN NB c b x = NB x := by simp [setN, h]

section
variable {X : Nat → Array Value → TypeId → Prop} {w0 : World} {mb : Nat} {NB : Nd → Option Nat} {L : Rs → List (Nat × Nat)} {TP : Nat → Option Nat} {cnt : Nat} {wr : World}

theorem Ok.notX {n : Nd} {b : Nat} (h : Ok NB L cnt wr n b) {q : Nat} {c : Array Value} {ty : TypeId} (hb : Blk wr q c ty) (h1 : ty ≠ 57) (h2 : ty ≠ 109) : q ≠ b := by
  cases n with
  | tabs => exact Mp.notcells h hb
  | part p => exact Mp.notcells h hb
  | tk p t => obtain ⟨_, _, _, h⟩ := h; exact hb.ne h h2
  | keys p t g => exact Mp.notcells h hb
  | ent r => obtain ⟨_, h, _⟩ := h; exact hb.ne h h1
  | more r => exact Mp.notcells h hb
/-- the extra blocks stand on while a block of the Manager's is written -/
theorem Mg.xkeep (h : Mg X w0 mb NB L TP cnt wr) {bn : Nat} (hbn : bn = mb ∨ ∃ n, NB n = some bn) {w' : World} (e : Ext (fun k => k = bn) wr w') : ∀ q c ty, X q c ty → Blk w' q c ty ∧ ty ≠ 79 ∧ ty ≠ 57 ∧ ty ≠ 109 := by
  intro q c ty hq
  obtain ⟨hb, h1, h2, h3⟩ := h.extra q c ty hq
  refine ⟨hb.ext e ?_, h1, h2, h3⟩
  rcases hbn with rfl | ⟨n, hn⟩
  · obtain ⟨arr, hB, _⟩ := h.mblk
    exact hb.ne hB h1
  · exact (h.ok n bn hn).2.notX hb h2 h3
theorem Mg.ext0 (h : Mg X w0 mb NB L TP cnt wr) {w' : World} (e : Ext (fun _ => False) wr w') : Mg X w0 mb NB L TP cnt w' := by
  obtain ⟨arr, hb, hr⟩ := h.mblk
  exact { h with
    ext := ecomp h.ext e
    mblk := ⟨arr, hb.ext e id, hr⟩
    ok := fun n b hn => ⟨(h.ok n b hn).1, (h.ok n b hn).2.ext e id⟩
    extra := fun q c ty hq => ⟨(h.extra q c ty hq).1.ext e id, (h.extra q c ty hq).2⟩ }
theorem Mg.up (h : Mg X w0 mb NB L TP cnt wr) {c' : Nat} (hc : cnt ≤ c') : Mg X w0 mb NB L TP c' wr := { h with ok := fun n b hn => ⟨(h.ok n b hn).1, (h.ok n b hn).2.mono hc⟩ }
theorem Mg.mlt (h : Mg X w0 mb NB L TP cnt wr) : mb < wr.heap.size := by obtain ⟨arr, hb, _⟩ := h.mblk; exact hb.lt

/-- a new object, hung under one that is there -/
theorem Mg.grow (h : Mg X w0 mb NB L TP cnt wr) {n c : Nd} {bn b : Nat} {w' : World} (hc : Ch n c) (hn : NB n = some bn) (h0 : NB c = none) (hb : wr.heap.size ≤ b) (e : Ext (fun k => k = bn) wr w') {cnt' : Nat} (hcnt : cnt ≤ cnt')
    (hpar : Ok (setN NB c b) L cnt' w' n bn) (hnew : Ok (setN NB c b) L cnt' w' c b) : Mg X w0 mb (setN NB c b) L TP cnt' w' := by
  have hnc : n ≠ c := hc.no
  have hcS : c ≠ .more .store ∧ c ≠ .tabs ∧ (∀ p, c ≠ .part p) ∧ c ≠ .ent .store := by cases hc <;> simp <;> assumption
  obtain ⟨arr, hB, hs, hg, ht, hp, htp⟩ := h.mblk
  have hbn := h.ok n bn hn
  have hmb : mb ≠ bn := hbn.2.notMb hB
  have hle := h.ext.size
  refine ⟨(h.ext.trans e).mono (fun k hk hh => by rcases hh with hh | hh; exact hh; have := hbn.1; omega), h.mbf, ⟨arr, hB.ext e hmb, hs, ?_, ?_, fun p hp' => ?_, htp⟩, fun m bm hm => ?_, fun m m' bm hm hm' => ?_, fun m d hd hm => ?_, fun r hr hm => ?_, ?_, h.xkeep (.inr ⟨n, hn⟩) e⟩
  · rw [setN_other _ _ (Ne.symm hcS.1)]; exact hg
  · rw [setN_other _ _ (Ne.symm hcS.2.1)]; exact ht
  · rw [setN_other _ _ (Ne.symm (hcS.2.2.1 p))]; exact hp p hp'
  · by_cases hmc : m = c
    · subst hmc
      rw [setN_same] at hm; injection hm with hm; subst hm
      exact ⟨by omega, hnew⟩
    · rw [setN_other _ _ hmc] at hm
      by_cases hmn : m = n
      · subst hmn
        rw [hn] at hm; injection hm with hm; subst hm
        exact ⟨hbn.1, hpar⟩
      · have hom := h.ok m bm hm
        have hne : bm ≠ bn := fun e => hmn (h.inj _ _ _ hm (by rw [e]; exact hn))
        refine ⟨hom.1, ((hom.2.ext e hne).mono hcnt).congr (fun d hd => setN_other _ _ (fun e => hmn ((hc.one (e ▸ hd))))) (fun e => setN_other _ _ (Ne.symm hcS.1)) (fun r => ⟨fun _ => rfl, fun _ => rfl⟩)⟩
  · by_cases h1 : m = c
    · by_cases h2 : m' = c
      · rw [h1, h2]
      · rw [h1, setN_same] at hm; injection hm with hm; subst hm
        rw [setN_other _ _ h2] at hm'
        have := (h.ok _ _ hm').2.lt
        omega
    · rw [setN_other _ _ h1] at hm
      by_cases h2 : m' = c
      · rw [h2, setN_same] at hm'; injection hm' with hm'; subst hm'
        have := (h.ok _ _ hm).2.lt
        omega
      · rw [setN_other _ _ h2] at hm'
        exact h.inj _ _ _ hm hm'
  · by_cases h1 : m = c
    · rw [h1, setN_same] at hm; cases hm
    · rw [setN_other _ _ h1] at hm
      by_cases h2 : d = c
      · subst h2
        rw [hc.one hd, hn] at hm; cases hm
      · rw [setN_other _ _ h2]; exact h.shut _ _ hd hm
  · by_cases h1 : Nd.ent r = c
    · rw [h1, setN_same] at hm; cases hm
    · rw [setN_other _ _ h1] at hm
      exact h.lnil r hr hm
  · rw [setN_other _ _ (Ne.symm hcS.2.2.2)]; exact h.entS

/-- a new object, hung into the Manager itself -/
theorem Mg.growM (h : Mg X w0 mb NB L TP cnt wr) {c : Nd} {b : Nat} {w' : World} (hc : ∀ n, ¬ Ch n c) (hcS : ∀ r, c ≠ .ent r) (h0 : NB c = none) (hb : wr.heap.size ≤ b) (e : Ext (fun k => k = mb) wr w')
    (hM : MBlk (setN NB c b) L TP w' mb) (hnew : Ok (setN NB c b) L cnt w' c b) : Mg X w0 mb (setN NB c b) L TP cnt w' := by
  obtain ⟨arr, hB, _⟩ := h.mblk
  have hle := h.ext.size
  refine ⟨(h.ext.trans e).mono (fun k hk hh => by rcases hh with hh | hh; exact hh; have := h.mbf; omega), h.mbf, hM, fun m bm hm => ?_, fun m m' bm hm hm' => ?_, fun m d hd hm => ?_, fun r hr hm => ?_, ?_, h.xkeep (.inl rfl) e⟩
  · by_cases hmc : m = c
    · subst hmc
      rw [setN_same] at hm; injection hm with hm; subst hm
      exact ⟨by omega, hnew⟩
    · rw [setN_other _ _ hmc] at hm
      have hom := h.ok m bm hm
      have hne : bm ≠ mb := fun e => hom.2.notMb hB e.symm
      refine ⟨hom.1, (hom.2.ext e hne).congr (fun d hd => setN_other _ _ (fun e => hc m (e ▸ hd))) (fun e' => ?_) (fun r => ⟨fun _ => rfl, fun _ => rfl⟩)⟩
      rw [e', h.entS] at hm; cases hm
  · by_cases h1 : m = c
    · by_cases h2 : m' = c
      · rw [h1, h2]
      · rw [h1, setN_same] at hm; injection hm with hm; subst hm
        rw [setN_other _ _ h2] at hm'
        have := (h.ok _ _ hm').2.lt
        omega
    · rw [setN_other _ _ h1] at hm
      by_cases h2 : m' = c
      · rw [h2, setN_same] at hm'; injection hm' with hm'; subst hm'
        have := (h.ok _ _ hm).2.lt
        omega
      · rw [setN_other _ _ h2] at hm'
        exact h.inj _ _ _ hm hm'
  · by_cases h1 : m = c
    · rw [h1, setN_same] at hm; cases hm
    · rw [setN_other _ _ h1] at hm
      have hdc : d ≠ c := fun e => hc m (e ▸ hd)
      rw [setN_other _ _ hdc]; exact h.shut _ _ hd hm
  · rw [setN_other _ _ (Ne.symm (hcS r))] at hm; exact h.lnil r hr hm
  · rw [setN_other _ _ (Ne.symm (hcS .store))]; exact h.entS

def setL (L : Rs → List (Nat × Nat)) (r : Rs) (x : Nat × Nat) : Rs → List (Nat × Nat) := fun y => if y = r then L r ++ [x] else L y
theorem setL_same (L : Rs → List (Nat × Nat)) (r : Rs) (x : Nat × Nat) : setL L r x r = L r ++ [x] := by simp [setL]
theorem setL_other (L : Rs → List (Nat × Nat)) {r y : Rs} (x : Nat × Nat) (h : y ≠ r) : setL L r x y = L y := by simp [setL, h]

theorem Gr.add {arr : Array Value} {l : List (Nat × Nat)} {mo : Option Nat} {x : Nat × Nat} (h : Gr arr l mo) (hl : 3 ≤ l.length) (hm : mo ≠ none) : Gr arr (l ++ [x]) mo := by
  obtain ⟨h1, h2, h3, h4, h5⟩ := h
  refine ⟨h1, by rw [h2]; simp; omega, fun i hi hi3 => ?_, h4, fun e => absurd e hm⟩
  have := h3 i (by omega) hi3
  rw [List.getElem_append_left (by omega)]
  exact this
/-- a grant written into one node's block (n), or into the Manager's (n = none) -/
theorem Mg.grant (h : Mg X w0 mb NB L TP cnt wr) {n : Option Nd} {bn : Nat} {r : Rs} {x : Nat × Nat} {w' : World} (hn : match n with | none => bn = mb | some n => NB n = some bn) (e : Ext (fun k => k = bn) wr w') {cnt' : Nat} (hcnt : cnt ≤ cnt')
    (hnn : match n with | none => MBlk NB (setL L r x) TP w' mb | some n => Ok NB (setL L r x) cnt' w' n bn)
    (hent : n ≠ some (.ent r) → ∀ b, NB (.ent r) = some b → Ok NB L cnt wr (.ent r) b → Ok NB (setL L r x) cnt wr (.ent r) b)
    (hmore : n ≠ some (.more r) → (L r ++ [x]).drop 3 = (L r).drop 3 ∨ NB (.more r) = none) (hM : n ≠ none → r ≠ .store ∨ (3 ≤ (L .store).length ∧ NB (.more .store) ≠ none)) (hr : r ≠ .store → NB (.ent r) ≠ none) : Mg X w0 mb NB (setL L r x) TP cnt' w' := by
  obtain ⟨arr, hB, hs, hg, ht, hp, htp⟩ := h.mblk
  have hle := h.ext.size
  have hbn : w0.heap.size ≤ bn := by
    cases n with
    | none => simp only at hn; rw [hn]; exact h.mbf
    | some n => exact (h.ok n bn hn).1
  refine { h with ext := (h.ext.trans e).mono (fun k hk hh => by rcases hh with hh | hh; exact hh; omega), mblk := ?_, ok := fun m bm hm => ?_, lnil := fun y hy hm => ?_, extra := h.xkeep (by cases n with | none => exact .inl hn | some n => exact .inr ⟨n, hn⟩) e }
  · cases n with
    | none => exact hnn
    | some n =>
      have hmb : mb ≠ bn := (h.ok n bn hn).2.notMb hB
      refine ⟨arr, hB.ext e hmb, hs, ?_, ht, hp, htp⟩
      rcases hM (by simp) with h1 | ⟨h1, h2⟩
      · rw [setL_other _ _ (Ne.symm h1)]; exact hg
      · by_cases hrs : r = .store
        · subst hrs; rw [setL_same]; exact hg.add h1 h2
        · rw [setL_other _ _ (Ne.symm hrs)]; exact hg
  · by_cases hmn : n = some m
    · subst hmn
      simp only at hn hnn
      rw [hn] at hm; injection hm with hm; subst hm
      exact ⟨hbn, hnn⟩
    · have hom := h.ok m bm hm
      have hne : bm ≠ bn := by
        intro eq
        cases n with
        | none => simp only at hn; exact hom.2.notMb hB (by rw [eq, hn])
        | some n => simp only at hn; exact hmn (by rw [h.inj m n bm hm (by rw [eq]; exact hn)])
      refine ⟨hom.1, (Ok.ext ?_ e hne).mono hcnt⟩
      by_cases hme : m = .ent r
      · subst hme
        exact hent hmn bm hm hom.2
      · by_cases hmm : m = .more r
        · subst hmm
          rcases hmore hmn with h1 | h1
          · refine hom.2.congr (fun _ _ => rfl) (fun _ => rfl) (fun y => ⟨(fun e' => nomatch e'), fun e' => ?_⟩)
            injection e' with e'; subst e'
            rw [setL_same]; exact h1
          · rw [h1] at hm; cases hm
        · refine hom.2.congr (fun _ _ => rfl) (fun _ => rfl) (fun y => ⟨fun e' => ?_, fun e' => ?_⟩)
          · subst e'; rw [setL_other _ _ (fun e => hme (by rw [e]))]
          · subst e'; rw [setL_other _ _ (fun e => hmm (by rw [e]))]
  · by_cases hyr : y = r
    · subst hyr; exact absurd hm (hr hy)
    · rw [setL_other _ _ hyr]; exact h.lnil y hy hm
end
end Go.Proofs.YbulkdtuwC
