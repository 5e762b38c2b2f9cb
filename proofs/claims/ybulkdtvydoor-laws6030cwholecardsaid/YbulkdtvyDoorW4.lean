import Derived.Test.YbulkdtvyDoorW2
import Derived.Test.YbulkdtvyDoorW3
import Derived.Test.YbulkdtvyDoorShelf
import Derived.Laws.StructEq
import Derived.Lib.SlBy2
namespace Go.Proofs.YbulkdtvyDoor.M
open Go.RowKit Go.Shelf Go.Lib

/-- a Finding -/
abbrev Fd := Int × Int × ByteArray × ByteArray × Int × Int
def Fd.enc (x : Fd) : List Value := fnd x.1 x.2.1 x.2.2.1 x.2.2.2.1 x.2.2.2.2.1 x.2.2.2.2.2
def Fd.eq (x y : Fd) : Bool := x.1 == y.1 && x.2.1 == y.2.1 && x.2.2.1.toList == y.2.2.1.toList && x.2.2.2.1.toList == y.2.2.2.1.toList && x.2.2.2.2.1 == y.2.2.2.2.1 && x.2.2.2.2.2 == y.2.2.2.2.2
theorem Fd.eq_self (x : Fd) : Fd.eq x x = true := by simp [Fd.eq]

theorem neqFd : NeqAt Ybad.prog 31 (fun x : Fd => .agg (Fd.enc x).toArray) Fd.eq := by
  refine ⟨fun x y w => ?_, GuardAt.agg _ (by kernel_rfl)⟩
  have u3 := Ybad.underlying3
  have a3 := Ybad.isAgg3
  have z3 := Ybad.sizeOf3
  have u9 := Ybad.underlying9
  have a9 := Ybad.isAgg9
  have z9 := Ybad.sizeOf9
  have u29 := Ybad.underlying29
  have a29 := Ybad.isAgg29
  have z29 := Ybad.sizeOf29
  have hS : Ybad.prog.underlying 31 = some (.struct (Ybad.prog.fieldsOf 31)) := by kernel_rfl
  have hp : Ybad.prog.stoodInHeld 31 = false := by kernel_rfl
  obtain ⟨x1, x2, x3, x4, x5, x6⟩ := x
  obtain ⟨y1, y2, y3, y4, y5, y6⟩ := y
  simp only [Fd.enc, fnd, Fd.eq]
  rw [run_neq_struct, show (10000 : Nat) = 9999 + 1 from rfl, run_equalIn_agg w 9999 31 _ _ hS hp]
  simp only [Program.fieldsOf, Ybad.underlying31]
  go_simp
  by_cases h1 : x1 = y1 <;> by_cases h2 : x2 = y2 <;> by_cases h3 : x3.toList = y3.toList <;> by_cases h4 : x4.toList = y4.toList <;> by_cases h5 : x5 = y5 <;> by_cases h6 : x6 = y6 <;> simp [h1, h2, h3, h4, h5, h6]

theorem allEq_self : ∀ xs : List Fd, Lib.allEq Fd.eq xs xs = true
  | [] => rfl
  | x :: xs => by rw [Lib.allEq, Fd.eq_self, allEq_self xs]; rfl

theorem clone_some (b off n c : Nat) (news : List Value) (w : World) (hl : news.length = n * 6) (hn : n ≤ 1048576)
    (hc : ∀ j u, news[j]? = some u → w.cell? ⟨b, off + j, none⟩ = some u) (h1 : ∀ u ∈ news, u.oneCell' = true) :
    Calls Ybad.prog 5 #[.slice (some ⟨b, off, none⟩) n c] w fun e w' => ∃ v', e = .returned v' ∧ w'.ownsRow w.heap.size 31 6 v' n news ∧ v' ≠ .slice none 0 0 ∧ Below w.heap.size w w' := by
  obtain ⟨i0, hi, hz0, hz1, hz2⟩ := inf31
  exact AnyE.slices_Clone Ybad.lclone i0 _ 6 64 hi hz0 hz1 hz2 rfl (by decide) Ybad.sizeOf31 b off n c news w hl (by unfold maxLen; omega) (by omega) hc h1
theorem clone_nil (n c : Nat) (w : World) :
    Calls Ybad.prog 5 #[.slice none n c] w fun e w' => e = .returned (.slice none 0 0) ∧ w' = w :=
  AnyE.slices_Clone_nil Ybad.lclone n c w
theorem equal_same (b1 o1 n c b2 o2 d : Nat) (xs : List Fd) (w : World) (hx : xs.length = n) (hn : n ≤ 2097152)
    (hc1 : ∀ j, j < xs.length → ∀ i v, (Fd.enc xs[j]!)[i]? = some v → w.cell? ⟨b1, o1 + j * 6 + i, none⟩ = some v) (hc2 : ∀ j, j < xs.length → ∀ i v, (Fd.enc xs[j]!)[i]? = some v → w.cell? ⟨b2, o2 + j * 6 + i, none⟩ = some v) :
    Calls Ybad.prog 7 #[.slice (some ⟨b1, o1, none⟩) n c, .slice (some ⟨b2, o2, none⟩) n d] w fun e w' => e = .returned (.bool true) ∧ ∃ q, w' = w.drewN q := by
  refine (AnyQ.slices_Equal Ybad.lequal 6 Ybad.isAgg31 Ybad.sizeOf31 Fd.enc (fun _ => rfl) Fd.eq neqFd b1 o1 n c b2 o2 n d xs xs w (by omega) (by omega) (by omega) (by omega) hc1 hc2).mono ?_
  rintro e w' ⟨rfl, h⟩
  refine ⟨?_, h⟩
  rw [allEq_self]
end Go.Proofs.YbulkdtvyDoor.M
