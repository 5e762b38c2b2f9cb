import Derived.Laws.BitsAllLaws
import Derived.Laws.Bits64
namespace Go.Proofs.Ybulkdtuw.A

/-- one step of FNV-1a, 32 bits -/
def stp (h : Nat) (c : UInt8) : Nat := ((h ^^^ c.toNat) * 16777619) % 4294967296
def fnv (l : List UInt8) : Nat := l.foldl stp 2166136261
def strm (t k : ByteArray) : List UInt8 := t.data.toList ++ 0 :: k.data.toList

theorem strm_len (t k : ByteArray) : (strm t k).length = t.size + 1 + k.size := by
  simp only [strm, List.length_append, List.length_cons]
  have h1 : t.data.toList.length = t.size := by simp
  have h2 : k.data.toList.length = k.size := by simp
  omega
theorem stp_lt (h : Nat) (c : UInt8) : stp h c < 4294967296 := by
  unfold stp
  generalize (h ^^^ c.toNat) * 16777619 = x
  omega
theorem fnv_lt (l : List UInt8) : fnv l < 4294967296 := by
  unfold fnv
  rcases List.eq_nil_or_concat l with h | ⟨l', c, h⟩
  · subst h; simp only [List.foldl_nil]; omega
  · subst h; rw [List.concat_eq_append, List.foldl_append, List.foldl_cons, List.foldl_nil]; exact stp_lt _ _
theorem fnv_snoc (l : List UInt8) (c : UInt8) : fnv (l ++ [c]) = stp (fnv l) c := by
  unfold fnv; rw [List.foldl_append, List.foldl_cons, List.foldl_nil]

theorem take_next (l : List UInt8) (k : Nat) (h : k < l.length) : l.take (k + 1) = l.take k ++ [l[k]] := by
  rw [List.take_succ_eq_append_getElem h]

theorem strm_lo (t k : ByteArray) (i : Nat) (h : i < t.size) : (strm t k).getD i 0 = t[i] := by
  unfold strm
  have h1 : t.data.toList.length = t.size := by simp
  rw [List.getD_eq_getElem?_getD, List.getElem?_append_left (by omega)]
  rw [List.getElem?_eq_getElem (by omega)]; rfl
theorem strm_mid (t k : ByteArray) : (strm t k).getD t.size 0 = 0 := by
  unfold strm
  have h1 : t.data.toList.length = t.size := by simp
  rw [List.getD_eq_getElem?_getD, List.getElem?_append_right (by omega), h1]; simp
theorem strm_hi (t k : ByteArray) (i : Nat) (h : i < k.size) : (strm t k).getD (t.size + 1 + i) 0 = k[i] := by
  unfold strm
  have h1 : t.data.toList.length = t.size := by simp
  have h2 : k.data.toList.length = k.size := by simp
  rw [List.getD_eq_getElem?_getD, List.getElem?_append_right (by omega), h1]
  rw [show t.size + 1 + i - t.size = i + 1 from by omega, List.getElem?_cons_succ]
  rw [List.getElem?_eq_getElem (by omega)]; rfl

/-- the step as partitionOf reckons it -/
theorem step32 (h : Nat) (c : UInt8) (hh : h < 4294967296) :
    bits .xor .u32 (h : Int) ((c.toNat : Int) % 4294967296) * 16777619 % 4294967296 = ((stp h c : Nat) : Int) := by
  have hc : c.toNat < 256 := c.toNat_lt
  rw [show ((c.toNat : Int) % 4294967296) = (c.toNat : Int) from by omega]
  rw [u32_xor_nat _ _ hh (by omega)]
  unfold stp
  omega
/-- the step at the NUL -/
theorem step32z (h : Nat) (_hh : h < 4294967296) :
    (h : Int) * 16777619 % 4294967296 = ((stp h 0 : Nat) : Int) := by
  unfold stp
  simp only [UInt8.toNat_zero, Nat.xor_zero]
  omega
theorem u64_and_mask (x : Nat) (h : x < 18446744073709551616) : bits .and .u64 (x : Int) 4294967295 = ((x % 4294967296 : Nat) : Int) := by
  have h1 : (BitVec.ofInt 64 (x : Int)).toNat = x := by
    rw [BitVec.ofInt_natCast, BitVec.toNat_ofNat]; exact Nat.mod_eq_of_lt (by omega)
  have h2 : (BitVec.ofInt 64 (4294967295 : Int)).toNat = 2 ^ 32 - 1 := by rw [show (4294967295 : Int) = ((4294967295 : Nat) : Int) from rfl, BitVec.ofInt_natCast, BitVec.toNat_ofNat]
  show IntKind.u64.wrap ((BitVec.ofInt 64 (x : Int) &&& BitVec.ofInt 64 (4294967295 : Int)).toNat : Int) = _
  rw [BitVec.toNat_and, h1, h2, Nat.and_two_pow_sub_one_eq_mod, IntKind.wrap_u64]
  omega
/-- the step as the law reckons it -/
theorem step64 (h : Nat) (c : UInt8) (hh : h < 4294967296) :
    bits .and .u64 (bits .xor .u64 (h : Int) (c.toNat : Int) * 16777619) 4294967295 = ((stp h c : Nat) : Int) := by
  have hc : c.toNat < 256 := c.toNat_lt
  rw [bits_xor_u64_nat _ _ (by omega) (by omega)]
  have hx : h ^^^ c.toNat < 2 ^ 32 := Nat.xor_lt_two_pow (by omega) (by omega)
  have e : (((h ^^^ c.toNat : Nat) : Int) * 16777619) = (((h ^^^ c.toNat) * 16777619 : Nat) : Int) := by omega
  rw [e, u64_and_mask _ (by omega), stp]
theorem fnv_next (l : List UInt8) (n : Nat) (h : n < l.length) : fnv (l.take (n + 1)) = stp (fnv (l.take n)) (l.getD n 0) := by
  rw [take_next l n h, fnv_snoc, List.getD_eq_getElem?_getD, List.getElem?_eq_getElem h, Option.getD_some]
theorem nxt_lo (t k : ByteArray) (n : Nat) (h : n < t.size) :
    bits .xor .u32 ((fnv ((strm t k).take n) : Nat) : Int) ((t[n].toNat : Int) % 4294967296) * 16777619 % 4294967296 = ((fnv ((strm t k).take (n + 1)) : Nat) : Int) := by
  rw [fnv_next _ _ (by rw [strm_len]; omega), strm_lo t k n h, step32 _ _ (fnv_lt _)]
theorem nxt_mid (t k : ByteArray) :
    ((fnv ((strm t k).take t.size) : Nat) : Int) * 16777619 % 4294967296 = ((fnv ((strm t k).take (t.size + 1)) : Nat) : Int) := by
  rw [fnv_next _ _ (by rw [strm_len]; omega), strm_mid t k, step32z _ (fnv_lt _)]
theorem nxt_hi (t k : ByteArray) (n : Nat) (h : n < k.size) :
    bits .xor .u32 ((fnv ((strm t k).take (t.size + 1 + n)) : Nat) : Int) ((k[n].toNat : Int) % 4294967296) * 16777619 % 4294967296 = ((fnv ((strm t k).take (t.size + 1 + n + 1)) : Nat) : Int) := by
  rw [fnv_next _ _ (by rw [strm_len]; omega), strm_hi t k n h, step32 _ _ (fnv_lt _)]
theorem nxt_law (l : List UInt8) (n : Nat) (h : n < l.length) :
    bits .and .u64 (IntKind.u64.wrap (bits .xor .u64 ((fnv (l.take n) : Nat) : Int) ((l[n]?.getD 0).toNat : Int) * 16777619)) 4294967295 = ((fnv (l.take (n + 1)) : Nat) : Int) := by
  have hf := fnv_lt (l.take n)
  have hc : (l[n]?.getD 0).toNat < 256 := (l[n]?.getD 0).toNat_lt
  have e : IntKind.u64.wrap (bits .xor .u64 ((fnv (l.take n) : Nat) : Int) ((l[n]?.getD 0).toNat : Int) * 16777619) = bits .xor .u64 ((fnv (l.take n) : Nat) : Int) ((l[n]?.getD 0).toNat : Int) * 16777619 := by
    rw [bits_xor_u64_nat _ _ (by omega) (by omega), IntKind.wrap_u64]
    have hx : fnv (l.take n) ^^^ (l[n]?.getD 0).toNat < 2 ^ 32 := Nat.xor_lt_two_pow (by omega) (by omega)
    omega
  rw [e, fnv_next _ _ h, step64 _ _ hf, List.getD_eq_getElem?_getD]
end Go.Proofs.Ybulkdtuw.A
