/- Plain lemmas on numbers in groups of seven bits: the list of a number's bytes, its length, and what the and, or and shift of one step come to. No program in sight. -/
import Derived.WalkKit
namespace Go.Proofs.Ytnpmdnfgmbimjaa.Vb
open Go.RowKit

/-- A number's bytes: groups of seven bits, the lowest first, each but the last with its highest bit set. -/
def vb (m : Nat) : List Int := if m < 128 then [(m : Int)] else ((m % 128 + 128 : Nat) : Int) :: vb (m / 128)
termination_by m
decreasing_by omega

theorem vb_lt {m : Nat} (h : m < 128) : vb m = [(m : Int)] := by rw [vb, if_pos h]
theorem vb_ge {m : Nat} (h : ¬ m < 128) : vb m = ((m % 128 + 128 : Nat) : Int) :: vb (m / 128) := by rw [vb, if_neg h]

theorem vb_len : ∀ (k m : Nat), m < 128 ^ (k + 1) → (vb m).length ≤ k + 1 := by
  intro k
  induction k with
  | zero => intro m h; rw [vb_lt (by omega)]; simp
  | succ k ih =>
    intro m h
    by_cases hm : m < 128
    · rw [vb_lt hm]; simp
    · rw [vb_ge hm, List.length_cons]
      have : m / 128 < 128 ^ (k + 1) := by
        apply Nat.div_lt_of_lt_mul
        rw [Nat.pow_succ, Nat.mul_comm] at h
        exact h
      have := ih _ this
      omega
theorem vb_len10 (m : Nat) (h : m < 18446744073709551616) : (vb m).length ≤ 10 := vb_len 9 m (Nat.lt_of_lt_of_le h (by decide))
theorem vb_len5 (m : Nat) (h : m < 4294967296) : (vb m).length ≤ 5 := vb_len 4 m (Nat.lt_of_lt_of_le h (by decide))
theorem vb_pos (m : Nat) : 1 ≤ (vb m).length := by
  by_cases hm : m < 128
  · rw [vb_lt hm]; simp
  · rw [vb_ge hm]; simp

/-- A round: what is done and what is still to come. -/
theorem step_ge {N m : Nat} {done : List Int} (h : done ++ vb m = vb N) (hm : ¬ m < 128) : (done ++ [((m % 128 + 128 : Nat) : Int)]) ++ vb (m / 128) = vb N := by
  rw [← h, vb_ge hm]; simp
theorem step_lt {N m : Nat} {done : List Int} (h : done ++ vb m = vb N) (hm : m < 128) : done ++ [(m : Int)] = vb N := by
  rw [← h, vb_lt hm]
theorem done_lt {N m : Nat} {done : List Int} (h : done ++ vb m = vb N) : done.length + (vb m).length = (vb N).length := by
  rw [← h, List.length_append]

theorem ofInt8 (a : Nat) (h : a < 256) : (BitVec.ofInt 8 (a : Int)).toNat = a := by
  rw [BitVec.toNat_ofInt]; omega
theorem or128F : ∀ a : Fin 256, a.val ||| 128 = a.val % 128 + 128 := by decide +kernel
theorem or128 (a : Nat) (h : a < 256) : a ||| 128 = a % 128 + 128 := or128F ⟨a, h⟩
theorem and127 (a : Nat) : a &&& 127 = a % 128 := Nat.and_two_pow_sub_one_eq_mod a 7
theorem or_u8 (a : Nat) (h : a < 256) : bits .or .u8 (a : Int) 128 = ((a % 128 + 128 : Nat) : Int) := by
  rw [show (128 : Int) = ((128 : Nat) : Int) from rfl, u8_or _ _ (by omega) (by omega) (by omega) (by omega)]
  simp only [Int.toNat_natCast]
  rw [or128 a h]

theorem toNat_i64 (x : Int) : ((BitVec.ofInt 64 x).toNat : Int) = x % 18446744073709551616 := by
  rw [BitVec.toNat_ofInt]; omega
theorem toNat_i32 (x : Int) : ((BitVec.ofInt 32 x).toNat : Int) = x % 4294967296 := by
  rw [BitVec.toNat_ofInt]; omega
/-- 'n & 0x7f', 'n | 0x80' at int64. -/
theorem and7f_i64 (x : Int) : bits .and .i64 x 127 = x % 128 := by
  show IntKind.i64.wrap ((BitVec.ofInt 64 x &&& BitVec.ofInt 64 127).toNat : Int) = _
  have h : (BitVec.ofInt 64 127).toNat = 127 := by decide
  rw [BitVec.toNat_and, h, and127, IntKind.wrap_i64]
  have := toNat_i64 x
  omega
theorem and7f_i32 (x : Int) : bits .and .i32 x 127 = x % 128 := by
  show IntKind.i32.wrap ((BitVec.ofInt 32 x &&& BitVec.ofInt 32 127).toNat : Int) = _
  have h : (BitVec.ofInt 32 127).toNat = 127 := by decide
  rw [BitVec.toNat_and, h, and127, IntKind.wrap_i32]
  have := toNat_i32 x
  omega
theorem or80_i64 (a : Nat) (h : a < 128) : bits .or .i64 (a : Int) 128 = (a : Int) + 128 := by
  show IntKind.i64.wrap ((BitVec.ofInt 64 a ||| BitVec.ofInt 64 128).toNat : Int) = _
  have e : (BitVec.ofInt 64 128).toNat = 128 := by decide
  have e2 : (BitVec.ofInt 64 (a : Int)).toNat = a := by have := toNat_i64 a; omega
  rw [BitVec.toNat_or, e, e2, or128 a (by omega), IntKind.wrap_i64]
  omega
theorem or80_i32 (a : Nat) (h : a < 128) : bits .or .i32 (a : Int) 128 = (a : Int) + 128 := by
  show IntKind.i32.wrap ((BitVec.ofInt 32 a ||| BitVec.ofInt 32 128).toNat : Int) = _
  have e : (BitVec.ofInt 32 128).toNat = 128 := by decide
  have e2 : (BitVec.ofInt 32 (a : Int)).toNat = a := by have := toNat_i32 a; omega
  rw [BitVec.toNat_or, e, e2, or128 a (by omega), IntKind.wrap_i32]
  omega
theorem and80_i64 (x : Int) (h1 : -9223372036854775808 ≤ x) (h2 : x ≤ 9223372036854775807) : bits .and .i64 x (-128) = x - x % 128 := by
  show IntKind.i64.wrap ((BitVec.ofInt 64 x &&& BitVec.ofInt 64 (-128)).toNat : Int) = _
  have h : (BitVec.ofInt 64 (-128)).toNat = 18446744073709551488 := by decide
  rw [BitVec.toNat_and, h, nat_hi64_7, IntKind.wrap_i64]
  have := toNat_i64 x
  omega
theorem and80_i32 (x : Int) (h1 : -2147483648 ≤ x) (h2 : x ≤ 2147483647) : bits .and .i32 x (-128) = x - x % 128 := by
  show IntKind.i32.wrap ((BitVec.ofInt 32 x &&& BitVec.ofInt 32 (-128)).toNat : Int) = _
  have h : (BitVec.ofInt 32 (-128)).toNat = 4294967168 := by decide
  rw [BitVec.toNat_and, h, nat_hi32_7, IntKind.wrap_i32]
  have := toNat_i32 x
  omega
end Go.Proofs.Ytnpmdnfgmbimjaa.Vb
