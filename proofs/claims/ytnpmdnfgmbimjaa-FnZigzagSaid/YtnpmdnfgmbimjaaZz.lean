/- Plain lemmas on Thrift's zigzag numbers: what the shifts and exclusive-ors of the compact protocol come to, for every number of 32 and of 64 bits. No program in sight. -/
import Derived.WalkKit
namespace Go.Proofs.Ytnpmdnfgmbimjaa.Zz
open Go.RowKit

/-- The number with its sign in the lowest bit. -/
def zz (a : Int) : Int := if 0 ≤ a then 2 * a else -2 * a - 1

theorem zz_pos {a : Int} (h : 0 ≤ a) : zz a = 2 * a := if_pos h
theorem zz_neg {a : Int} (h : ¬ 0 ≤ a) : zz a = -2 * a - 1 := if_neg h

theorem toNat_i64 (x : Int) : ((BitVec.ofInt 64 x).toNat : Int) = x % 18446744073709551616 := by
  rw [BitVec.toNat_ofInt]; omega
theorem toNat_i32 (x : Int) : ((BitVec.ofInt 32 x).toNat : Int) = x % 4294967296 := by
  rw [BitVec.toNat_ofInt]; omega

theorem xor0_i64 (x : Int) : bits .xor .i64 x 0 = IntKind.i64.wrap x := by
  show IntKind.i64.wrap ((BitVec.ofInt 64 x ^^^ BitVec.ofInt 64 0).toNat : Int) = _
  have : BitVec.ofInt 64 0 = 0#64 := rfl
  rw [this, BitVec.xor_zero, toNat_i64, IntKind.wrap_i64, IntKind.wrap_i64]; omega
theorem xor0_i32 (x : Int) : bits .xor .i32 x 0 = IntKind.i32.wrap x := by
  show IntKind.i32.wrap ((BitVec.ofInt 32 x ^^^ BitVec.ofInt 32 0).toNat : Int) = _
  have : BitVec.ofInt 32 0 = 0#32 := rfl
  rw [this, BitVec.xor_zero, toNat_i32, IntKind.wrap_i32, IntKind.wrap_i32]; omega
theorem xor0_u64 (x : Int) : bits .xor .u64 x 0 = IntKind.u64.wrap x := by
  show IntKind.u64.wrap ((BitVec.ofInt 64 x ^^^ BitVec.ofInt 64 0).toNat : Int) = _
  have : BitVec.ofInt 64 0 = 0#64 := rfl
  rw [this, BitVec.xor_zero, toNat_i64, IntKind.wrap_u64, IntKind.wrap_u64]; omega

theorem not64 (x : BitVec 64) (y : BitVec 64) (h : y = BitVec.allOnes 64) : ((x ^^^ y).toNat : Int) = 18446744073709551615 - x.toNat := by
  subst h
  rw [BitVec.xor_allOnes, BitVec.toNat_not]
  have := x.isLt
  omega
theorem not32 (x : BitVec 32) (y : BitVec 32) (h : y = BitVec.allOnes 32) : ((x ^^^ y).toNat : Int) = 4294967295 - x.toNat := by
  subst h
  rw [BitVec.xor_allOnes, BitVec.toNat_not]
  have := x.isLt
  omega
theorem xor1_i64 (x : Int) : bits .xor .i64 x (-1) = IntKind.i64.wrap (-1 - x) := by
  show IntKind.i64.wrap ((BitVec.ofInt 64 x ^^^ BitVec.ofInt 64 (-1)).toNat : Int) = _
  rw [not64 _ _ (by decide), toNat_i64, IntKind.wrap_i64, IntKind.wrap_i64]; omega
theorem xor1_i32 (x : Int) : bits .xor .i32 x (-1) = IntKind.i32.wrap (-1 - x) := by
  show IntKind.i32.wrap ((BitVec.ofInt 32 x ^^^ BitVec.ofInt 32 (-1)).toNat : Int) = _
  rw [not32 _ _ (by decide), toNat_i32, IntKind.wrap_i32, IntKind.wrap_i32]; omega
theorem xor1_u64 (x : Int) : bits .xor .u64 x 18446744073709551615 = IntKind.u64.wrap (-1 - x) := by
  show IntKind.u64.wrap ((BitVec.ofInt 64 x ^^^ BitVec.ofInt 64 18446744073709551615).toNat : Int) = _
  rw [not64 _ _ (by decide), toNat_i64, IntKind.wrap_u64, IntKind.wrap_u64]; omega

theorem and1_i64 (x : Int) : bits .and .i64 x 1 = x % 2 := by
  show IntKind.i64.wrap ((BitVec.ofInt 64 x &&& BitVec.ofInt 64 1).toNat : Int) = _
  have h : (BitVec.ofInt 64 1).toNat = 1 := by decide
  rw [BitVec.toNat_and, h, Nat.and_one_is_mod, IntKind.wrap_i64]
  have := toNat_i64 x
  omega
theorem and1_i32 (x : Int) : bits .and .i32 x 1 = x % 2 := by
  show IntKind.i32.wrap ((BitVec.ofInt 32 x &&& BitVec.ofInt 32 1).toNat : Int) = _
  have h : (BitVec.ofInt 32 1).toNat = 1 := by decide
  rw [BitVec.toNat_and, h, Nat.and_one_is_mod, IntKind.wrap_i32]
  have := toNat_i32 x
  omega

/-- spec.Zigzag. -/
theorem spec_zz (a : Int) (h1 : -9223372036854775808 ≤ a) (h2 : a ≤ 9223372036854775807) :
    bits .xor .u64 (IntKind.u64.wrap (IntKind.u64.wrap a * 2)) (IntKind.u64.wrap (a / 9223372036854775808)) = zz a := by
  by_cases h : 0 ≤ a
  · have e : a / 9223372036854775808 = 0 := by omega
    have e2 : IntKind.u64.wrap 0 = 0 := rfl
    rw [e, e2, xor0_u64, zz_pos h]; simp only [IntKind.wrap_u64]; omega
  · have e : a / 9223372036854775808 = -1 := by omega
    have e2 : IntKind.u64.wrap (-1) = 18446744073709551615 := rfl
    rw [e, e2, xor1_u64, zz_neg h]; simp only [IntKind.wrap_u64]; omega
theorem zig64 (a : Int) (h1 : -9223372036854775808 ≤ a) (h2 : a ≤ 9223372036854775807) :
    bits .xor .i64 (wrap64 (a * 2)) (a / 9223372036854775808) = wrap64 (zz a) := by
  by_cases h : 0 ≤ a
  · have e : a / 9223372036854775808 = 0 := by omega
    rw [e, xor0_i64, zz_pos h, IntKind.wrap_i64]; unfold wrap64; omega
  · have e : a / 9223372036854775808 = -1 := by omega
    rw [e, xor1_i64, zz_neg h, IntKind.wrap_i64]; unfold wrap64; omega
theorem zig32 (a : Int) (h1 : -2147483648 ≤ a) (h2 : a ≤ 2147483647) :
    bits .xor .i32 (wrap32 (a * 2)) (a / 2147483648) = wrap32 (zz a) := by
  by_cases h : 0 ≤ a
  · have e : a / 2147483648 = 0 := by omega
    rw [e, xor0_i32, zz_pos h, IntKind.wrap_i32]; unfold wrap32; omega
  · have e : a / 2147483648 = -1 := by omega
    rw [e, xor1_i32, zz_neg h, IntKind.wrap_i32]; unfold wrap32; omega
theorem zz_bd (a : Int) (h1 : -9223372036854775808 ≤ a) (h2 : a ≤ 9223372036854775807) : 0 ≤ zz a ∧ zz a ≤ 18446744073709551615 := by
  unfold zz; split <;> omega
theorem zz_bd32 (a : Int) (h1 : -2147483648 ≤ a) (h2 : a ≤ 2147483647) : 0 ≤ zz a ∧ zz a ≤ 4294967295 := by
  unfold zz; split <;> omega
theorem unz64 (a : Int) (h1 : -9223372036854775808 ≤ a) (h2 : a ≤ 9223372036854775807) :
    bits .xor .i64 (wrap64 (IntKind.u64.wrap (wrap64 (zz a)) / 2)) (wrap64 (-bits .and .i64 (wrap64 (zz a)) 1)) = a := by
  have hb := zz_bd a h1 h2
  have e0 : IntKind.u64.wrap (wrap64 (zz a)) = zz a := by rw [IntKind.wrap_u64]; unfold wrap64; omega
  rw [e0, and1_i64]
  have e1 : wrap64 (zz a) % 2 = zz a % 2 := by unfold wrap64; omega
  rw [e1]
  by_cases h : 0 ≤ a
  · have e : wrap64 (-(zz a % 2)) = 0 := by rw [zz_pos h]; unfold wrap64; omega
    rw [e, xor0_i64, zz_pos h, IntKind.wrap_i64]; unfold wrap64; omega
  · have e : wrap64 (-(zz a % 2)) = -1 := by rw [zz_neg h]; unfold wrap64; omega
    rw [e, xor1_i64, zz_neg h, IntKind.wrap_i64]; unfold wrap64; omega
theorem unz32 (a : Int) (h1 : -2147483648 ≤ a) (h2 : a ≤ 2147483647) :
    bits .xor .i32 (wrap32 (zz a) % 4294967296 / 2) (wrap32 (-bits .and .i32 (wrap32 (zz a)) 1)) = a := by
  have hb := zz_bd32 a h1 h2
  have e0 : wrap32 (zz a) % 4294967296 = zz a := by unfold wrap32; omega
  rw [e0, and1_i32]
  have e1 : wrap32 (zz a) % 2 = zz a % 2 := by unfold wrap32; omega
  rw [e1]
  by_cases h : 0 ≤ a
  · have e : wrap32 (-(zz a % 2)) = 0 := by rw [zz_pos h]; unfold wrap32; omega
    rw [e, xor0_i32, zz_pos h, IntKind.wrap_i32]; omega
  · have e : wrap32 (-(zz a % 2)) = -1 := by rw [zz_neg h]; unfold wrap32; omega
    rw [e, xor1_i32, zz_neg h, IntKind.wrap_i32]; omega
end Go.Proofs.Ytnpmdnfgmbimjaa.Zz
