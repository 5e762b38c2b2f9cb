/-
  DERIVED: THE SHELF's CONTRACTS AT THIS DUMP, IN PLAIN WORDS (tools/lay-plain.mjs out of 'YbaShelf.lean', which tools/lay-shelf.mjs wrote): THE SAME DECLARATIONS UNDER THE SAME NAMES: 'import', 'namespace', 'open', 'def', 'theorem' AND NOTHING ELSE: no command of the shelf's: FOR A HAND-IN. Each laying: the table of numbers ('.._ren') and one theorem, a field a fact of the dump's own or the kernel's comparison; each contract: ONE APPLICATION.
-/
import Derived.Shelf.Small.Bits
import Derived.Shelf.Small.Strs
import Derived.Shelf.Strconv.Itoa0
import Derived.Shelf.Sort.Plain
import Derived.Shelf.Slices.Equal
import Derived.Shelf.Slices.CompactS
import Derived.Shelf.Slices.Delete
import Derived.Shelf.Slices.Cells
import Derived.Shelf.Slices.In.SortNone
import Derived.Shelf.Slices.Empties
import Derived.Shelf.Slices.Empties2
import Derived.Shelf.SlicesE.Equal
import Derived.Shelf.SlicesE.Delete
import Derived.Shelf.Spec.SearchS
import Derived.Test.YbulkdtuwProg
namespace Go.Proofs
open Go.Shelf
def Yba.lays128_ren : Go.Shelf.Ren := ⟨fun | 128 => 37 | n => n, fun | 51 => 98 | 3 => 3 | 4 => 4 | 46 => 28 | 5 => 5 | 9 => 9 | n => n, fun | n => n⟩
theorem Yba.lays128 : Go.Proofs.Lays.n128 Yba.prog Yba.lays128_ren := {
  mixed := by kernel_rfl
  f128 := Yba.func37.trans (congrArg some (by kernel_rfl))
  t3 := Yba.underlying3
  a3 := Yba.isAgg3
  z3 := Yba.sizeOf3
  v3 := Yba.zeroValue3
  t4 := Yba.underlying4
  a4 := Yba.isAgg4
  z4 := Yba.sizeOf4
  v4 := Yba.zeroValue4
  t5 := Yba.underlying5
  a5 := Yba.isAgg5
  z5 := Yba.sizeOf5
  v5 := Yba.zeroValue5
  t9 := Yba.underlying9
  a9 := Yba.isAgg9
  z9 := Yba.sizeOf9
  v9 := Yba.zeroValue9
  t46 := Yba.underlying28
  a46 := Yba.isAgg28
  z46 := Yba.sizeOf28
  v46 := Yba.zeroValue28
  t51 := Yba.underlying98
  a51 := Yba.isAgg98
  z51 := Yba.sizeOf98
  v51 := Yba.zeroValue98 }
/-- bits.Len32: "Len32 returns the minimum number of bits required to represent x; the result is 0 for x == 0.": IT RETURNS 'Lib.bitLen x'; the world is as it was. ('h0', 'h1': x is a uint32.) (LAID: no walk: one application.) -/
theorem Yba.bits_Len32 (x : Int) (w : World) (h0 : 0 ≤ x) (h1 : x ≤ 4294967295) :
    Calls Yba.prog 37 #[.int .u32 x] w fun e w' => e = .returned (.int .i64 (Lib.bitLen x.toNat)) ∧ w' = w := Any.bits_Len32 Yba.lays128 x w h0 h1
def Yba.lays125_ren : Go.Shelf.Ren := ⟨fun | 125 => 18 | 128 => 37 | 129 => 38 | n => n, fun | 46 => 28 | 3 => 3 | 51 => 98 | 53 => 22 | 4 => 4 | 5 => 5 | 9 => 9 | n => n, fun | n => n⟩
theorem Yba.lays125 : Go.Proofs.Lays.n125 Yba.prog Yba.lays125_ren := {
  mixed := by kernel_rfl
  f125 := Yba.func18.trans (congrArg some (by kernel_rfl))
  f128 := Yba.func37.trans (congrArg some (by kernel_rfl))
  f129 := Yba.func38.trans (congrArg some (by kernel_rfl))
  t3 := Yba.underlying3
  a3 := Yba.isAgg3
  z3 := Yba.sizeOf3
  v3 := Yba.zeroValue3
  t4 := Yba.underlying4
  a4 := Yba.isAgg4
  z4 := Yba.sizeOf4
  v4 := Yba.zeroValue4
  t5 := Yba.underlying5
  a5 := Yba.isAgg5
  z5 := Yba.sizeOf5
  v5 := Yba.zeroValue5
  t9 := Yba.underlying9
  a9 := Yba.isAgg9
  z9 := Yba.sizeOf9
  v9 := Yba.zeroValue9
  t46 := Yba.underlying28
  a46 := Yba.isAgg28
  z46 := Yba.sizeOf28
  v46 := Yba.zeroValue28
  t51 := Yba.underlying98
  a51 := Yba.isAgg98
  z51 := Yba.sizeOf98
  v51 := Yba.zeroValue98
  t53 := Yba.underlying22
  a53 := Yba.isAgg22
  z53 := Yba.sizeOf22
  v53 := Yba.zeroValue22 }
/-- bits.Len: "Len returns the minimum number of bits required to represent x; the result is 0 for x == 0.": IT RETURNS 'Lib.bitLen x'; the world is as it was. (A uint has 64 bits in the model.) ITS CALLEE bits.Len64 IS MET BY ITS OWN CONTRACT OFF THE SHELF (lay that first). (LAID: no walk: one application.) -/
theorem Yba.bits_Len (x : Int) (w : World) (h0 : 0 ≤ x) (h1 : x ≤ 18446744073709551615) :
    Calls Yba.prog 18 #[.int .u64 x] w fun e w' => e = .returned (.int .i64 (Lib.bitLen x.toNat)) ∧ w' = w := Any.bits_Len Yba.lays125 x w h0 h1
def Yba.lays213_ren : Go.Shelf.Ren := ⟨fun | 213 => 53 | 265 => 57 | n => n, fun | 9 => 9 | 3 => 3 | n => n, fun | n => n⟩
theorem Yba.lays213 : Go.Proofs.Lays.n213 Yba.prog Yba.lays213_ren := {
  mixed := by kernel_rfl
  f213 := Yba.func53.trans (congrArg some (by kernel_rfl))
  f265 := Yba.func57.trans (congrArg some (by kernel_rfl))
  t3 := Yba.underlying3
  a3 := Yba.isAgg3
  z3 := Yba.sizeOf3
  v3 := Yba.zeroValue3
  t9 := Yba.underlying9
  a9 := Yba.isAgg9
  z9 := Yba.sizeOf9
  v9 := Yba.zeroValue9 }
open Go.RowKit in
/-- internal/bytealg.CompareString (what strings.Compare calls): IT RETURNS 'Lib.compareBytes a b'; the world is as it was. (LAID: no walk: one application.) -/
theorem Yba.bytealg_CompareString (a b : ByteArray) (w : World) :
    Calls Yba.prog 53 #[.string a, .string b] w fun e w' => e = .returned (.int .i64 (Lib.compareBytes a.data.toList b.data.toList)) ∧ w' = w := Any.bytealg_CompareString Yba.lays213 a b w
def Yba.lays106_ren : Go.Shelf.Ren := ⟨fun | 106 => 41 | 213 => 53 | 265 => 57 | n => n, fun | 9 => 9 | 3 => 3 | n => n, fun | n => n⟩
theorem Yba.lays106 : Go.Proofs.Lays.n106 Yba.prog Yba.lays106_ren := {
  mixed := by kernel_rfl
  f106 := Yba.func41.trans (congrArg some (by kernel_rfl))
  f213 := Yba.func53.trans (congrArg some (by kernel_rfl))
  f265 := Yba.func57.trans (congrArg some (by kernel_rfl))
  t3 := Yba.underlying3
  a3 := Yba.isAgg3
  z3 := Yba.sizeOf3
  v3 := Yba.zeroValue3
  t9 := Yba.underlying9
  a9 := Yba.isAgg9
  z9 := Yba.sizeOf9
  v9 := Yba.zeroValue9 }
open Go.RowKit in
/-- strings.Compare: "Compare returns an integer comparing two strings lexicographically. The result will be 0 if a == b, -1 if a < b, and +1 if a > b.": IT RETURNS 'Lib.compareBytes a b'; the world is as it was. (LAID: no walk: one application.) -/
theorem Yba.strings_Compare (a b : ByteArray) (w : World) :
    Calls Yba.prog 41 #[.string a, .string b] w fun e w' => e = .returned (.int .i64 (Lib.compareBytes a.data.toList b.data.toList)) ∧ w' = w := Any.strings_Compare Yba.lays106 a b w
def Yba.lays129_ren : Go.Shelf.Ren := ⟨fun | 129 => 38 | n => n, fun | 53 => 22 | 3 => 3 | 4 => 4 | 46 => 28 | 5 => 5 | 9 => 9 | n => n, fun | n => n⟩
theorem Yba.lays129 : Go.Proofs.Lays.n129 Yba.prog Yba.lays129_ren := {
  mixed := by kernel_rfl
  f129 := Yba.func38.trans (congrArg some (by kernel_rfl))
  t3 := Yba.underlying3
  a3 := Yba.isAgg3
  z3 := Yba.sizeOf3
  v3 := Yba.zeroValue3
  t4 := Yba.underlying4
  a4 := Yba.isAgg4
  z4 := Yba.sizeOf4
  v4 := Yba.zeroValue4
  t5 := Yba.underlying5
  a5 := Yba.isAgg5
  z5 := Yba.sizeOf5
  v5 := Yba.zeroValue5
  t9 := Yba.underlying9
  a9 := Yba.isAgg9
  z9 := Yba.sizeOf9
  v9 := Yba.zeroValue9
  t46 := Yba.underlying28
  a46 := Yba.isAgg28
  z46 := Yba.sizeOf28
  v46 := Yba.zeroValue28
  t53 := Yba.underlying22
  a53 := Yba.isAgg22
  z53 := Yba.sizeOf22
  v53 := Yba.zeroValue22 }
/-- bits.Len64: "Len64 returns the minimum number of bits required to represent x; the result is 0 for x == 0.": IT RETURNS 'Lib.bitLen x'; the world is as it was. ('h0', 'h1': x is a uint64.) (LAID: no walk: one application.) -/
theorem Yba.bits_Len64 (x : Int) (w : World) (h0 : 0 ≤ x) (h1 : x ≤ 18446744073709551615) :
    Calls Yba.prog 38 #[.int .u64 x] w fun e w' => e = .returned (.int .i64 (Lib.bitLen x.toNat)) ∧ w' = w := Any.bits_Len64 Yba.lays129 x w h0 h1
def Yba.lays190_ren : Go.Shelf.Ren := ⟨fun | 190 => 8 | 125 => 18 | 258 => 17 | 128 => 37 | 129 => 38 | 302 => 28 | 303 => 29 | 304 => 30 | 305 => 31 | 306 => 32 | 307 => 33 | 308 => 34 | 309 => 35 | 310 => 36 | 333 => 47 | 329 => 48 | 330 => 49 | 334 => 50 | 335 => 51 | 336 => 52 | 344 => 56 | n => n, fun | 31 => 26 | 9 => 9 | 3 => 3 | 46 => 28 | 0 => 0 | 51 => 98 | 53 => 22 | 4 => 4 | 183 => 116 | 182 => 115 | 131 => 120 | 5 => 5 | 218 => 132 | 222 => 136 | 228 => 141 | 229 => 102 | n => n, fun | n => n⟩
theorem Yba.lays190 : Go.Proofs.Lays.n190 Yba.prog Yba.lays190_ren := {
  mixed := by kernel_rfl
  f125 := Yba.func18.trans (congrArg some (by kernel_rfl))
  f128 := Yba.func37.trans (congrArg some (by kernel_rfl))
  f129 := Yba.func38.trans (congrArg some (by kernel_rfl))
  f190 := Yba.func8.trans (congrArg some (by kernel_rfl))
  f258 := Yba.func17.trans (congrArg some (by kernel_rfl))
  f302 := Yba.func28.trans (congrArg some (by kernel_rfl))
  f303 := Yba.func29.trans (congrArg some (by kernel_rfl))
  f304 := Yba.func30.trans (congrArg some (by kernel_rfl))
  f305 := Yba.func31.trans (congrArg some (by kernel_rfl))
  f306 := Yba.func32.trans (congrArg some (by kernel_rfl))
  f307 := Yba.func33.trans (congrArg some (by kernel_rfl))
  f308 := Yba.func34.trans (congrArg some (by kernel_rfl))
  f309 := Yba.func35.trans (congrArg some (by kernel_rfl))
  f310 := Yba.func36.trans (congrArg some (by kernel_rfl))
  f329 := Yba.func48.trans (congrArg some (by kernel_rfl))
  f330 := Yba.func49.trans (congrArg some (by kernel_rfl))
  f333 := Yba.func47.trans (congrArg some (by kernel_rfl))
  f334 := Yba.func50.trans (congrArg some (by kernel_rfl))
  f335 := Yba.func51.trans (congrArg some (by kernel_rfl))
  f336 := Yba.func52.trans (congrArg some (by kernel_rfl))
  f344 := Yba.func56.trans (congrArg some (by kernel_rfl))
  t0 := Yba.underlying0
  a0 := Yba.isAgg0
  z0 := Yba.sizeOf0
  v0 := Yba.zeroValue0
  t3 := Yba.underlying3
  a3 := Yba.isAgg3
  z3 := Yba.sizeOf3
  v3 := Yba.zeroValue3
  t4 := Yba.underlying4
  a4 := Yba.isAgg4
  z4 := Yba.sizeOf4
  v4 := Yba.zeroValue4
  t5 := Yba.underlying5
  a5 := Yba.isAgg5
  z5 := Yba.sizeOf5
  v5 := Yba.zeroValue5
  t9 := Yba.underlying9
  a9 := Yba.isAgg9
  z9 := Yba.sizeOf9
  v9 := Yba.zeroValue9
  t31 := Yba.underlying26
  a31 := Yba.isAgg26
  z31 := Yba.sizeOf26
  v31 := Yba.zeroValue26
  t46 := Yba.underlying28
  a46 := Yba.isAgg28
  z46 := Yba.sizeOf28
  v46 := Yba.zeroValue28
  t51 := Yba.underlying98
  a51 := Yba.isAgg98
  z51 := Yba.sizeOf98
  v51 := Yba.zeroValue98
  t53 := Yba.underlying22
  a53 := Yba.isAgg22
  z53 := Yba.sizeOf22
  v53 := Yba.zeroValue22
  t131 := Yba.underlying120
  a131 := Yba.isAgg120
  z131 := Yba.sizeOf120
  v131 := Yba.zeroValue120
  t182 := Yba.underlying115
  a182 := Yba.isAgg115
  z182 := Yba.sizeOf115
  v182 := Yba.zeroValue115
  t183 := Yba.underlying116
  a183 := Yba.isAgg116
  z183 := Yba.sizeOf116
  v183 := Yba.zeroValue116
  t218 := Yba.underlying132
  a218 := Yba.isAgg132
  z218 := Yba.sizeOf132
  v218 := Yba.zeroValue132
  t222 := Yba.underlying136
  a222 := Yba.isAgg136
  z222 := Yba.sizeOf136
  v222 := Yba.zeroValue136
  t228 := Yba.underlying141
  a228 := Yba.isAgg141
  z228 := Yba.sizeOf141
  v228 := Yba.zeroValue141
  t229 := Yba.underlying102
  a229 := Yba.isAgg102
  z229 := Yba.sizeOf102
  v229 := Yba.zeroValue102 }
open Go.Sort Go.RowKit in
theorem Yba.slices_Sort_string (blk off cap : Nat) (ss : List (List UInt8)) (w : World) (hH : Holds encStr w blk off ss.toArray) (hblk : blk < w.heap.size) (hsz : ss.length < 4611686018427387904) :
    Calls Yba.prog 8 #[.slice (some ⟨blk, off, none⟩) ss.length cap] w fun e w' =>
      e = .returned (.tuple #[]) ∧ ∃ n os, w' = grow (putRow encStr (Sort.ahead w n) blk off (ss.mergeSort fun x y => decide (x ≤ y)).toArray) os := Any.slices_Sort_string Yba.lays190 blk off cap ss w hH hblk hsz
def Yba.lays193_ren : Go.Shelf.Ren := ⟨fun | 193 => 11 | n => n, fun | 31 => 26 | 9 => 9 | 4 => 4 | 3 => 3 | 0 => 0 | n => n, fun | n => n⟩
theorem Yba.lays193 : Go.Proofs.Lays.n193 Yba.prog Yba.lays193_ren := {
  mixed := by kernel_rfl
  f193 := Yba.func11.trans (congrArg some (by kernel_rfl))
  t0 := Yba.underlying0
  a0 := Yba.isAgg0
  z0 := Yba.sizeOf0
  v0 := Yba.zeroValue0
  t3 := Yba.underlying3
  a3 := Yba.isAgg3
  z3 := Yba.sizeOf3
  v3 := Yba.zeroValue3
  t4 := Yba.underlying4
  a4 := Yba.isAgg4
  z4 := Yba.sizeOf4
  v4 := Yba.zeroValue4
  t9 := Yba.underlying9
  a9 := Yba.isAgg9
  z9 := Yba.sizeOf9
  v9 := Yba.zeroValue9
  t31 := Yba.underlying26
  a31 := Yba.isAgg26
  z31 := Yba.sizeOf26
  v31 := Yba.zeroValue26 }
open Go.RowKit Go.Lib in
/-- slices.Equal at []string: "Equal reports whether two slices are equal: the same length and all elements equal. If the lengths are different, Equal returns false. Otherwise, the elements are compared in increasing index order, and the comparison stops at the first unequal pair. Empty and nil slices are considered equal.": IT RETURNS WHETHER THE TWO LISTS OF ELEMENTS ARE ONE; the world is as it was but for the count of draws (the test 's1[i] != s2[i]' has two reads, whose order the model draws, once a round). 'xs', 'ys': what the cells behind the two addresses hold (the spare capacity too, if you have it); 'xs.take n', 'ys.take m': the elements. THE TWO SLICES MAY OVERLAP. (LAID: no walk: one application.) -/
theorem Yba.slices_Equal_string (b1 o1 n c b2 o2 m d : Nat) (xs ys : List ByteArray) (w : World) (hx : n ≤ xs.length) (hy : m ≤ ys.length) (hbig : n ≤ 9223372036854775807) (hbig2 : m ≤ 9223372036854775807) (hc1 : ∀ j, j < xs.length → w.cell? ⟨b1, o1 + j, none⟩ = some (.string (xs.getD j ByteArray.empty))) (hc2 : ∀ j, j < ys.length → w.cell? ⟨b2, o2 + j, none⟩ = some (.string (ys.getD j ByteArray.empty))) :
    Calls Yba.prog 11 #[.slice (some ⟨b1, o1, none⟩) n c, .slice (some ⟨b2, o2, none⟩) m d] w fun e w' => e = .returned (.bool (decide (xs.take n = ys.take m))) ∧ ∃ q, w' = w.drewN q := Any.slices_Equal_string Yba.lays193 b1 o1 n c b2 o2 m d xs ys w hx hy hbig hbig2 hc1 hc2
open Go.RowKit Go.Lib in
/-- The same where the first is of length 0 (a nil one too): no cell is asked for. (LAID: no walk: one application.) -/
theorem Yba.slices_Equal_string_empty (a1 a2 : Option Addr) (c m d : Nat) (w : World) (hbig2 : m ≤ 9223372036854775807) :
    Calls Yba.prog 11 #[.slice a1 0 c, .slice a2 m d] w fun e w' => e = .returned (.bool (decide (m = 0))) ∧ w' = w := Any.slices_Equal_string_empty Yba.lays193 a1 a2 c m d w hbig2
def Yba.lays194_ren : Go.Shelf.Ren := ⟨fun | 194 => 9 | n => n, fun | 31 => 26 | 9 => 9 | 3 => 3 | 4 => 4 | 0 => 0 | n => n, fun | n => n⟩
theorem Yba.lays194 : Go.Proofs.Lays.n194 Yba.prog Yba.lays194_ren := {
  mixed := by kernel_rfl
  f194 := Yba.func9.trans (congrArg some (by kernel_rfl))
  t0 := Yba.underlying0
  a0 := Yba.isAgg0
  z0 := Yba.sizeOf0
  v0 := Yba.zeroValue0
  t3 := Yba.underlying3
  a3 := Yba.isAgg3
  z3 := Yba.sizeOf3
  v3 := Yba.zeroValue3
  t4 := Yba.underlying4
  a4 := Yba.isAgg4
  z4 := Yba.sizeOf4
  v4 := Yba.zeroValue4
  t9 := Yba.underlying9
  a9 := Yba.isAgg9
  z9 := Yba.sizeOf9
  v9 := Yba.zeroValue9
  t31 := Yba.underlying26
  a31 := Yba.isAgg26
  z31 := Yba.sizeOf26
  v31 := Yba.zeroValue26 }
open Go.RowKit Go.Lib Go.Sort in
/-- slices.Compact at []string, over an array: the library's two loops are walked. (LAID: no walk: one application.) -/
theorem Yba.slices_Compact_string_arr (blk off cap : Nat) (d : Array (List UInt8)) (w : World) (hH : Holds encStr w blk off d) (hsz : d.size ≤ 9223372036854775807) (hcap : d.size ≤ cap) :
    Calls Yba.prog 9 #[.slice (some ⟨blk, off, none⟩) d.size cap] w fun e w' => e = .returned (.slice (some ⟨blk, off, none⟩) (compactUpTo d d.size).length cap) ∧ ∃ q, w' = putRow encStr (Sort.ahead w q) blk off (compactUpTo d d.size ++ List.replicate (d.size - (compactUpTo d d.size).length) []).toArray := Any.slices_Compact_string_arr Yba.lays194 blk off cap d w hH hsz hcap
open Go.RowKit Go.Lib Go.Sort in
/-- slices.Compact at []string: "Compact replaces consecutive runs of equal elements with a single copy. This is like the uniq command found on Unix. Compact modifies the contents of the slice s and returns the modified slice, which may have a smaller length. Compact zeroes the elements between the new length and the original length. The result preserves the nilness of s.": IT RETURNS THE SLICE CUT TO 'Lib.compact zs'; ITS CELLS HOLD 'Lib.compact zs', THEN ZERO VALUES up to the old length; all else is as it was, but for the count of draws. IN THE WORDS OF slices.Sort's CONTRACT ('Holds', 'putRow'): so the everyday 'slices.Sort(xs); xs = slices.Compact(xs)' goes from the one contract to the other. It asks 'zs.length ≤ cap' (every slice's: the reslicing 's[:k]' looks at it). Length 0, nil: '.._empty'. (LAID: no walk: one application.) -/
theorem Yba.slices_Compact_string (blk off cap : Nat) (zs : List (List UInt8)) (w : World) (hH : Holds encStr w blk off zs.toArray) (hsz : zs.length ≤ 9223372036854775807) (hcap : zs.length ≤ cap) :
    Calls Yba.prog 9 #[.slice (some ⟨blk, off, none⟩) zs.length cap] w fun e w' => e = .returned (.slice (some ⟨blk, off, none⟩) (Lib.compact zs).length cap) ∧ ∃ q, w' = putRow encStr (Sort.ahead w q) blk off (Lib.compact zs ++ List.replicate (zs.length - (Lib.compact zs).length) []).toArray := Any.slices_Compact_string Yba.lays194 blk off cap zs w hH hsz hcap
open Go.RowKit Go.Lib Go.Sort in
/-- The same at a slice of length 0, a nil one too: it comes back as it is. (LAID: no walk: one application.) -/
theorem Yba.slices_Compact_string_empty (a : Option Addr) (cap : Nat) (w : World) :
    Calls Yba.prog 9 #[.slice a 0 cap] w fun e w' => e = .returned (.slice a 0 cap) ∧ w' = w := Any.slices_Compact_string_empty Yba.lays194 a cap w
def Yba.laysNm224_ren : Go.Shelf.Ren := ⟨fun | 24 => 21 | n => n, fun | 24 => 26 | 9 => 9 | 3 => 3 | 4 => 4 | 0 => 0 | n => n, fun | n => n⟩
theorem Yba.laysNm224 : Go.Proofs.Lays2.n24 Yba.prog Yba.laysNm224_ren := {
  mixed := by kernel_rfl
  f24 := Yba.func21.trans (congrArg some (by kernel_rfl))
  t0 := Yba.underlying0
  a0 := Yba.isAgg0
  z0 := Yba.sizeOf0
  v0 := Yba.zeroValue0
  t3 := Yba.underlying3
  a3 := Yba.isAgg3
  z3 := Yba.sizeOf3
  v3 := Yba.zeroValue3
  t4 := Yba.underlying4
  a4 := Yba.isAgg4
  z4 := Yba.sizeOf4
  v4 := Yba.zeroValue4
  t9 := Yba.underlying9
  a9 := Yba.isAgg9
  z9 := Yba.sizeOf9
  v9 := Yba.zeroValue9
  t24 := Yba.underlying26
  a24 := Yba.isAgg26
  z24 := Yba.sizeOf26
  v24 := Yba.zeroValue26
  i9 := by kernel_rfl }
open Go.RowKit Go.Lib Go.Sort in
/-- slices.Delete at []string, over an array. (LAID: no walk: one application.) -/
theorem Yba.slices_Delete_string_arr (blk off cap i j : Nat) (d : Array (List UInt8)) (w : World) (hH : Holds encStr w blk off d) (hcap : d.size ≤ cap) (hm : cap ≤ 9223372036854775807) (hij : i ≤ j) (hj : j ≤ d.size) :
    Calls Yba.prog 21 #[.slice (some ⟨blk, off, none⟩) d.size cap, .int .i64 i, .int .i64 j] w fun e w' => e = .returned (.slice (some ⟨blk, off, none⟩) (d.size - (j - i)) cap) ∧ ∃ q, w' = putRow encStr (Sort.ahead w q) blk off (d.toList.take i ++ d.toList.drop j ++ List.replicate (j - i) []).toArray := Any.slices_Delete_string_arr Yba.laysNm224 blk off cap i j d w hH hcap hm hij hj
open Go.RowKit Go.Lib Go.Sort in
/-- slices.Delete at []string: "Delete modifies s in place by removing the elements s[i:j], and returns the modified slice. Delete panics if j > len(s) or s[i:j] is not a valid slice of s. Delete is O(len(s)-i), so if many items must be deleted, it is better to make a single call deleting them all together than to delete one at a time. Delete zeroes the elements s[len(s)-(j-i):len(s)]. If the result is empty, it has the same nilness as s.": FOR i ≤ j ≤ len(s) IT RETURNS THE SLICE CUT TO len(s) - (j - i) ELEMENTS; ITS CELLS HOLD what stood ahead of i, what stood from j on, then j - i zero values; all else is as it was, but for the count of draws. IN THE WORDS OF slices.Sort's CONTRACT ('Holds', 'putRow'). It asks 'zs.length ≤ cap ≤ 2^63 - 1' (every slice's). (Outside i ≤ j ≤ len(s) it panics: no contract here.) (LAID: no walk: one application.) -/
theorem Yba.slices_Delete_string (blk off cap i j : Nat) (zs : List (List UInt8)) (w : World) (hH : Holds encStr w blk off zs.toArray) (hcap : zs.length ≤ cap) (hm : cap ≤ 9223372036854775807) (hij : i ≤ j) (hj : j ≤ zs.length) :
    Calls Yba.prog 21 #[.slice (some ⟨blk, off, none⟩) zs.length cap, .int .i64 i, .int .i64 j] w fun e w' => e = .returned (.slice (some ⟨blk, off, none⟩) (zs.length - (j - i)) cap) ∧ ∃ q, w' = putRow encStr (Sort.ahead w q) blk off (zs.take i ++ zs.drop j ++ List.replicate (j - i) []).toArray := Any.slices_Delete_string Yba.laysNm224 blk off cap i j zs w hH hcap hm hij hj
open Go.RowKit Go.Lib Go.Sort in
/-- slices.Compact at []string, of an argument. (LAID: no walk: one application.) -/
theorem Yba.slices_Compact_string_cells (b off n c : Nat) (Sx : Nat → ByteArray) (w : World) (hbig : n ≤ 9223372036854775807) (hcap : n ≤ c) (hc : ∀ i, i < n → w.cell? ⟨b, off + i, none⟩ = some (.string (Sx i))) (hf : ∀ j, j < n → w.frozen? ⟨b, off + j, none⟩ = false) :
    Calls Yba.prog 9 #[.slice (some ⟨b, off, none⟩) n c] w fun e w' => e = .returned (.slice (some ⟨b, off, none⟩) (Lib.compact (Lib.strsOf Sx n)).length c) ∧ ∃ q, w' = (w.drewN q).setCells b off ((Lib.compact (Lib.strsOf Sx n) ++ List.replicate (n - (Lib.compact (Lib.strsOf Sx n)).length) []).map encStr) := Any.slices_Compact_string_cells Yba.lays194 b off n c Sx w hbig hcap hc hf
open Go.RowKit Go.Lib Go.Sort in
/-- slices.Delete at []string, of an argument, for i ≤ j ≤ n. (LAID: no walk: one application.) -/
theorem Yba.slices_Delete_string_cells (b off n c i j : Nat) (Sx : Nat → ByteArray) (w : World) (hcap : n ≤ c) (hm : c ≤ 9223372036854775807) (hij : i ≤ j) (hj : j ≤ n) (hc : ∀ i, i < n → w.cell? ⟨b, off + i, none⟩ = some (.string (Sx i))) (hf : ∀ j, j < n → w.frozen? ⟨b, off + j, none⟩ = false) :
    Calls Yba.prog 21 #[.slice (some ⟨b, off, none⟩) n c, .int .i64 i, .int .i64 j] w fun e w' => e = .returned (.slice (some ⟨b, off, none⟩) (n - (j - i)) c) ∧ ∃ q, w' = (w.drewN q).setCells b off (((Lib.strsOf Sx n).take i ++ (Lib.strsOf Sx n).drop j ++ List.replicate (j - i) []).map encStr) := Any.slices_Delete_string_cells Yba.laysNm224 b off n c i j Sx w hcap hm hij hj hc hf
open Go.RowKit Go.Sort in
/-- .. and plain. (LAID: no walk: one application.) -/
theorem Yba.slices_Sort_string_none (p : Option Addr) (cap : Nat) (w : World) :
    Calls Yba.prog 8 #[.slice p 0 cap] w fun e w' => e = .returned (.tuple #[]) ∧ w' = w := Any.slices_Sort_string_none Yba.lays190 p cap w
open Go.RowKit Go.Lib in
/-- slices.Delete at []string of no element ('Delete(s, 0, 0)'): s comes back; the world is as it was. (LAID: no walk: one application.) -/
theorem Yba.slices_Delete_string_empty (a : Option Addr) (c : Nat) (w : World) :
    Calls Yba.prog 21 #[.slice a 0 c, .int .i64 0, .int .i64 0] w fun e w' => e = .returned (.slice a 0 c) ∧ w' = w := Any.slices_Delete_string_empty Yba.laysNm224 a c w
open Go.RowKit Go.Lib in
theorem Yba.slices_Equal_string_lens (a1 a2 : Option Addr) (n c m d : Nat) (w : World) (hnm : n ≠ m) :
    Calls Yba.prog 11 #[.slice a1 n c, .slice a2 m d] w fun e w' => e = .returned (.bool false) ∧ w' = w := Any.slices_Equal_string_lens Yba.lays193 a1 a2 n c m d w hnm
def Yba.laysSlE33_f11_ren : Go.Shelf.Ren := ⟨fun | 33 => 11 | n => n, fun | 22 => 26 | 23 => 9 | 4 => 4 | 3 => 3 | 0 => 0 | n => n, fun | n => n⟩
theorem Yba.laysSlE33_f11 : Go.Proofs.SlLaysE.n33 Yba.prog Yba.laysSlE33_f11_ren := {
  mixed := by kernel_rfl
  f33 := ⟨Yba.f11.name, by decide, Yba.func11.trans (congrArg some (by kernel_rfl))⟩
  t0 := Yba.underlying0
  a0 := Yba.isAgg0
  z0 := Yba.sizeOf0
  v0 := Yba.zeroValue0
  t3 := Yba.underlying3
  a3 := Yba.isAgg3
  z3 := Yba.sizeOf3
  v3 := Yba.zeroValue3
  t4 := Yba.underlying4
  a4 := Yba.isAgg4
  z4 := Yba.sizeOf4
  v4 := Yba.zeroValue4
  t22 := Yba.underlying26
  a22 := Yba.isAgg26
  z22 := Yba.sizeOf26
  v22 := Yba.zeroValue26
  a23 := Yba.isAgg9
  z23 := Yba.sizeOf9 }
open Go.RowKit Go.Lib in
/-- slices.Equal: "Equal reports whether two slices are equal: the same length and all elements equal. .. Empty and nil slices are considered equal. Floating point NaNs are not considered equal.": IT RETURNS 'Lib.allEq eq (the one's elements) (the other's)'; the world is as it was but for the count of draws. (LAID AT THE INSTANCE 'slices.Equal[[]string,string]': no walk: one application.) -/
theorem Yba.slices_Equal {α : Type} [Inhabited α] (enc : α → Value) (eq : α → α → Bool) (hne : NeqAt Yba.prog 9 enc eq) (b1 o1 n c b2 o2 m d : Nat) (xs ys : List α) (w : World) (hx : n ≤ xs.length) (hy : m ≤ ys.length) (hbig : n ≤ 9223372036854775807) (hbig2 : m ≤ 9223372036854775807) (hc1 : ∀ j, j < xs.length → w.cell? ⟨b1, o1 + j, none⟩ = some (enc xs[j]!)) (hc2 : ∀ j, j < ys.length → w.cell? ⟨b2, o2 + j, none⟩ = some (enc ys[j]!)) :
    Calls Yba.prog 11 #[.slice (some ⟨b1, o1, none⟩) n c, .slice (some ⟨b2, o2, none⟩) m d] w fun e w' => e = .returned (.bool (Lib.allEq eq (xs.take n) (ys.take m))) ∧ ∃ q, w' = w.drewN q := AnyE.slices_Equal Yba.laysSlE33_f11 enc eq hne b1 o1 n c b2 o2 m d xs ys w hx hy hbig hbig2 hc1 hc2
def Yba.laysSlE45_f21_ren : Go.Shelf.Ren := ⟨fun | 45 => 21 | n => n, fun | 22 => 26 | 23 => 9 | 3 => 3 | 4 => 4 | 0 => 0 | n => n, fun | n => n⟩
theorem Yba.laysSlE45_f21 : Go.Proofs.SlLaysE.n45 Yba.prog Yba.laysSlE45_f21_ren := {
  mixed := by kernel_rfl
  f45 := ⟨Yba.f21.name, by decide, Yba.func21.trans (congrArg some (by kernel_rfl))⟩
  t0 := Yba.underlying0
  a0 := Yba.isAgg0
  z0 := Yba.sizeOf0
  v0 := Yba.zeroValue0
  t3 := Yba.underlying3
  a3 := Yba.isAgg3
  z3 := Yba.sizeOf3
  v3 := Yba.zeroValue3
  t4 := Yba.underlying4
  a4 := Yba.isAgg4
  z4 := Yba.sizeOf4
  v4 := Yba.zeroValue4
  t22 := Yba.underlying26
  a22 := Yba.isAgg26
  z22 := Yba.sizeOf26
  v22 := Yba.zeroValue26
  a23 := Yba.isAgg9
  z23 := Yba.sizeOf9 }
open Go.RowKit Go.Lib Go.Sort in
/-- slices.Delete: "Delete modifies s in place by removing the elements s[i:j], and returns the modified slice. .. Delete zeroes the elements s[len(s)-(j-i):len(s)].": FOR i ≤ j ≤ len(s) IT RETURNS THE SLICE CUT TO len(s) - (j - i) ELEMENTS; ITS CELLS HOLD what stood ahead of i, what stood from j on, then j - i zero values ('zr': the element whose 'enc' is the type's zero value). (LAID AT THE INSTANCE 'slices.Delete[[]string,string]': no walk: one application.) -/
theorem Yba.slices_Delete {α : Type} [Inhabited α] (enc : α → Value) (h1 : OneCell enc) (zr : α) (v23 : ∀ w, (zeroValue 9).run Yba.prog w = .ok (enc zr) w) (i0 : TypeInfo) (hi0 : Yba.prog.info? 9 = some i0) (hz1 : i0.size = 1) (blk off cap i j : Nat) (d : Array α) (w : World) (hH : Holds enc w blk off d) (hcap : d.size ≤ cap) (hm : cap ≤ 9223372036854775807) (hij : i ≤ j) (hj : j ≤ d.size) :
    Calls Yba.prog 21 #[.slice (some ⟨blk, off, none⟩) d.size cap, .int .i64 i, .int .i64 j] w fun e w' => e = .returned (.slice (some ⟨blk, off, none⟩) (d.size - (j - i)) cap) ∧ ∃ q, w' = putRow enc (Sort.ahead w q) blk off (d.toList.take i ++ d.toList.drop j ++ List.replicate (j - i) zr).toArray := AnyE.slices_Delete Yba.laysSlE45_f21 enc h1 zr v23 i0 hi0 hz1 blk off cap i j d w hH hcap hm hij hj
def Yba.lbs_ren : Go.Shelf.Ren := ⟨fun | 26 => 42 | 33 => 34 | 34 => 54 | 38 => 52 | n => n, fun | 24 => 26 | 9 => 9 | 3 => 3 | 4 => 4 | 40 => 28 | 0 => 0 | n => n, fun | n => n⟩
theorem Yba.lbs : Go.Proofs.Lays2.n26 Yba.prog Yba.lbs_ren := {
  mixed := by kernel_rfl
  f26 := Yba.func42.trans (congrArg some (by kernel_rfl))
  f33 := Yba.func34.trans (congrArg some (by kernel_rfl))
  f34 := Yba.func54.trans (congrArg some (by kernel_rfl))
  f38 := Yba.func52.trans (congrArg some (by kernel_rfl))
  t0 := Yba.underlying0
  a0 := Yba.isAgg0
  z0 := Yba.sizeOf0
  v0 := Yba.zeroValue0
  t3 := Yba.underlying3
  a3 := Yba.isAgg3
  z3 := Yba.sizeOf3
  v3 := Yba.zeroValue3
  t4 := Yba.underlying4
  a4 := Yba.isAgg4
  z4 := Yba.sizeOf4
  v4 := Yba.zeroValue4
  t9 := Yba.underlying9
  a9 := Yba.isAgg9
  z9 := Yba.sizeOf9
  v9 := Yba.zeroValue9
  t24 := Yba.underlying26
  a24 := Yba.isAgg26
  z24 := Yba.sizeOf26
  v24 := Yba.zeroValue26
  t40 := Yba.underlying28
  a40 := Yba.isAgg28
  z40 := Yba.sizeOf28
  v40 := Yba.zeroValue28 }
def Yba.ldel20_ren : Go.Shelf.Ren := ⟨fun | 45 => 20 | n => n, fun | 22 => 32 | 23 => 26 | 3 => 3 | 4 => 4 | 0 => 0 | n => n, fun | n => n⟩
theorem Yba.ldel20 : Go.Proofs.SlLaysE.n45 Yba.prog Yba.ldel20_ren := {
  mixed := by kernel_rfl
  f45 := ⟨Yba.f20.name, by decide, Yba.func20.trans (congrArg some (by kernel_rfl))⟩
  t0 := Yba.underlying0
  a0 := Yba.isAgg0
  z0 := Yba.sizeOf0
  v0 := Yba.zeroValue0
  t3 := Yba.underlying3
  a3 := Yba.isAgg3
  z3 := Yba.sizeOf3
  v3 := Yba.zeroValue3
  t4 := Yba.underlying4
  a4 := Yba.isAgg4
  z4 := Yba.sizeOf4
  v4 := Yba.zeroValue4
  t22 := Yba.underlying32
  a22 := Yba.isAgg32
  z22 := Yba.sizeOf32
  v22 := Yba.zeroValue32
  a23 := Yba.isAgg26
  z23 := Yba.sizeOf26 }
end Go.Proofs
