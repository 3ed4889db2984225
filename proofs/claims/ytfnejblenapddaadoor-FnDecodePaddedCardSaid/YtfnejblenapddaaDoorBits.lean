/- Bitwise operations of the snappy code as sums and remainders. -/
import Derived.Laws.BitsAllLaws
import Derived.Lib.EndianBits
namespace Go.Proofs.YtfnejblenapddaaDoor
open Go

theorem nat_or_mul (i a y : Nat) (hy : y < 2 ^ i) : a * 2 ^ i ||| y = a * 2 ^ i + y := nat_join i _ _ (Nat.mul_mod_left a (2 ^ i)) hy

theorem u8_or0 (x : Int) (h0 : 0 ≤ x) (h1 : x < 256) : bits .or .u8 x 0 = x := by
  rw [u8_or x 0 h0 h1 (by decide) (by decide)]
  simp
  omega
theorem u8_or2 (x : Int) (h0 : 0 ≤ x) (h1 : x * 4 < 256) : bits .or .u8 (x * 4) 2 = x * 4 + 2 := by
  rw [u8_or _ 2 (by omega) h1 (by decide) (by decide)]
  have e : (x * 4).toNat = x.toNat * 2 ^ 2 := by omega
  rw [e, show (2 : Int).toNat = 2 from rfl, nat_or_mul 2 _ 2 (by decide)]
  omega
theorem u8_or_c1 (a n : Int) (ha0 : 0 ≤ a) (ha : a < 8) (hn0 : 0 ≤ n) (hn : n < 8) : bits .or .u8 (bits .or .u8 (a * 32) (n * 4)) 1 = 1 + n * 4 + a * 32 := by
  rw [u8_or (a * 32) (n * 4) (by omega) (by omega) (by omega) (by omega)]
  have e1 : (a * 32).toNat = a.toNat * 2 ^ 5 := by omega
  have e2 : (n * 4).toNat = n.toNat * 4 := by omega
  rw [e1, e2, nat_or_mul 5 _ _ (by omega)]
  have e3 : ((a.toNat * 2 ^ 5 + n.toNat * 4 : Nat) : Int) = (((a.toNat * 8 + n.toNat) * 2 ^ 2 : Nat) : Int) := by omega
  rw [e3, u8_or _ 1 (by omega) (by omega) (by decide) (by decide), Int.toNat_natCast, show (1 : Int).toNat = 1 from rfl, nat_or_mul 2 _ 1 (by decide)]
  omega
theorem u8_and3 (x : Int) (h0 : 0 ≤ x) (h1 : x < 256) : bits .and .u8 x 3 = x % 4 := bits_mask .u8 8 (by decide) wraps_u8 2 (by decide) x h0 h1
theorem i64_and7 (x : Int) (h0 : 0 ≤ x) (h1 : x < 256) : bits .and .i64 x 7 = x % 8 :=
  bits_mask .i64 8 (by decide) (fun n a b => by rw [IntKind.wrap_i64]; omega) 3 (by decide) x h0 h1
theorem u32_and224 (x : Int) (h0 : 0 ≤ x) (h1 : x < 256) : bits .and .u32 x 224 = x / 32 * 32 := by
  rw [u32_and x 224 h0 (by omega) (by decide) (by decide)]
  obtain ⟨n, rfl⟩ := Int.eq_ofNat_of_zero_le h0
  have hn : n < 256 := by omega
  rw [Int.toNat_natCast, show (224 : Int).toNat = 224 from rfl]
  have h : ∀ a : Fin 256, (a.val &&& 224) = a.val / 32 * 32 := by decide +kernel
  have := h ⟨n, hn⟩
  simp only at this
  rw [this]
  omega
theorem u32_and16383 (x : Int) (h0 : 0 ≤ x) (h1 : x < 4294967296) : bits .and .u32 x 16383 = x % 16384 := bits_mask .u32 32 (by decide) wraps_u32 14 (by decide) x h0 h1
theorem i64_and30 (x : Int) : 0 ≤ bits .and .i64 x 1073741823 ∧ bits .and .i64 x 1073741823 < 1073741824 := by
  unfold bits
  have h : ((BitVec.ofInt IntKind.i64.bits x) &&& (BitVec.ofInt IntKind.i64.bits 1073741823)).toNat < 1073741824 := by
    rw [BitVec.toNat_and]
    exact Nat.lt_of_le_of_lt Nat.and_le_right (by decide)
  simp only
  rw [IntKind.wrap_i64]
  omega

theorem u32_four (x0 x1 x2 x3 : Int) (a0 : 0 ≤ x0) (b0 : x0 < 256) (a1 : 0 ≤ x1) (b1 : x1 < 256) (a2 : 0 ≤ x2) (b2 : x2 < 256) (a3 : 0 ≤ x3) (b3 : x3 < 256) :
    bits .or .u32 (bits .or .u32 (bits .or .u32 x0 (x1 * 256)) (x2 * 65536)) (x3 * 16777216) = x0 + x1 * 256 + x2 * 65536 + x3 * 16777216 := by
  rw [u32_or8 x0 (x1 * 256) a0 b0 (by omega) (by omega) (by omega), u32_or16 (x0 + x1 * 256) (x2 * 65536) (by omega) (by omega) (by omega) (by omega) (by omega), u32_or24 (x0 + x1 * 256 + x2 * 65536) (x3 * 16777216) (by omega) (by omega) (by omega) (by omega) (by omega)]
theorem u64_eight (x0 x1 x2 x3 x4 x5 x6 x7 : Int) (a0 : 0 ≤ x0) (b0 : x0 < 256) (a1 : 0 ≤ x1) (b1 : x1 < 256) (a2 : 0 ≤ x2) (b2 : x2 < 256) (a3 : 0 ≤ x3) (b3 : x3 < 256)
    (a4 : 0 ≤ x4) (b4 : x4 < 256) (a5 : 0 ≤ x5) (b5 : x5 < 256) (a6 : 0 ≤ x6) (b6 : x6 < 256) (a7 : 0 ≤ x7) (b7 : x7 < 256) :
    bits .or .u64 (bits .or .u64 (bits .or .u64 (bits .or .u64 (bits .or .u64 (bits .or .u64 (bits .or .u64 x0 (x1 * 256)) (x2 * 65536)) (x3 * 16777216)) (x4 * 4294967296)) (x5 * 1099511627776)) (x6 * 281474976710656)) (x7 * 72057594037927936) =
      x0 + x1 * 256 + x2 * 65536 + x3 * 16777216 + x4 * 4294967296 + x5 * 1099511627776 + x6 * 281474976710656 + x7 * 72057594037927936 := by
  rw [u64_or8 x0 (x1 * 256) a0 b0 (by omega) (by omega) (by omega), u64_or16 (x0 + x1 * 256) (x2 * 65536) (by omega) (by omega) (by omega) (by omega) (by omega), u64_or24 (x0 + x1 * 256 + x2 * 65536) (x3 * 16777216) (by omega) (by omega) (by omega) (by omega) (by omega),
    u64_or32 (x0 + x1 * 256 + x2 * 65536 + x3 * 16777216) (x4 * 4294967296) (by omega) (by omega) (by omega) (by omega) (by omega), u64_or40 (x0 + x1 * 256 + x2 * 65536 + x3 * 16777216 + x4 * 4294967296) (x5 * 1099511627776) (by omega) (by omega) (by omega) (by omega) (by omega), u64_or48 (x0 + x1 * 256 + x2 * 65536 + x3 * 16777216 + x4 * 4294967296 + x5 * 1099511627776) (x6 * 281474976710656) (by omega) (by omega) (by omega) (by omega) (by omega), u64_or56 (x0 + x1 * 256 + x2 * 65536 + x3 * 16777216 + x4 * 4294967296 + x5 * 1099511627776 + x6 * 281474976710656) (x7 * 72057594037927936) (by omega) (by omega) (by omega) (by omega) (by omega)]

theorem u32_two (x0 x1 : Int) (a0 : 0 ≤ x0) (b0 : x0 < 256) (a1 : 0 ≤ x1) (b1 : x1 < 256) : bits .or .u32 x0 (x1 * 256) = x0 + x1 * 256 := u32_or8 x0 (x1 * 256) a0 b0 (by omega) (by omega) (by omega)
theorem u32_three (x0 x1 x2 : Int) (a0 : 0 ≤ x0) (b0 : x0 < 256) (a1 : 0 ≤ x1) (b1 : x1 < 256) (a2 : 0 ≤ x2) (b2 : x2 < 256) : bits .or .u32 (bits .or .u32 x0 (x1 * 256)) (x2 * 65536) = x0 + x1 * 256 + x2 * 65536 := by
  rw [u32_or8 x0 (x1 * 256) a0 b0 (by omega) (by omega) (by omega), u32_or16 (x0 + x1 * 256) (x2 * 65536) (by omega) (by omega) (by omega) (by omega) (by omega)]
theorem u32_hi (a y : Nat) (ha : a < 8) (hy : y < 256) : bits .or .u32 ((a : Int) * 32 * 8) (y : Int) = ((a * 256 + y : Nat) : Int) := by
  have h8 := nat_or_mul 8 a y (by rw [show (2 : Nat) ^ 8 = 256 from rfl]; exact hy)
  rw [show (2 : Nat) ^ 8 = 256 from rfl] at h8
  have e : (a : Int) * 32 * 8 = ((a * 256 : Nat) : Int) := by omega
  have h1 : a * 256 < 4294967296 := Nat.lt_of_lt_of_le (show a * 256 < 2048 by omega) (by decide)
  have h2 : y < 4294967296 := Nat.lt_of_lt_of_le hy (by decide)
  rw [e, u32_or_nat (a * 256) y h1 h2, h8]
end Go.Proofs.YtfnejblenapddaaDoor
