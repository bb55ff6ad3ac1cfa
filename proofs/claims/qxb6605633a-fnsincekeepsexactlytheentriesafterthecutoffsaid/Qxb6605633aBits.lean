/-
  Plain facts on the bits of a Time's wall word that bears no monotonic reading: a number of nanoseconds below 10^9.
-/
import Derived.Test.Qxb6605633aRows
import Derived.WalkKit
import Derived.WalkSpells
import Derived.WalkLawsBesides
import Derived.Laws.BitsAllLaws
namespace Go.Proofs.Qxb6605633a
open Go.RowKit

theorem and_mask {a : Int} (h0 : 0 ≤ a) (h1 : a < 1073741824) : bits .and .u64 a 1073741823 = a := by
  rw [u64_and a 1073741823 h0 (by omega) (by omega) (by omega)]
  have : a.toNat &&& (1073741823 : Int).toNat = a.toNat % 2 ^ 30 := Nat.and_two_pow_sub_one_eq_mod a.toNat 30
  rw [this, Nat.mod_eq_of_lt (by omega)]
  omega

theorem andNot_mask {a : Int} (h0 : 0 ≤ a) (h1 : a < 1073741824) : bits .andNot .u64 a 1073741823 = 0 := by
  rw [u64_andNot a 1073741823 h0 (by omega) (by omega) (by omega)]
  have e : (18446744073709551615 - (1073741823 : Int).toNat : Nat) = 2 ^ 30 * 17179869183 := by decide
  have : a.toNat &&& (18446744073709551615 - (1073741823 : Int).toNat) = 0 := by
    rw [e]
    apply Nat.eq_of_testBit_eq
    intro i
    rw [Nat.testBit_and, Nat.testBit_two_pow_mul, Nat.zero_testBit]
    by_cases hi : 30 ≤ i
    · have : a.toNat.testBit i = false := Nat.testBit_lt_two_pow (Nat.lt_of_lt_of_le (show a.toNat < 2 ^ 30 by omega) (Nat.pow_le_pow_right (by omega) hi))
      simp [this]
    · simp [hi]
  rw [this]; rfl

theorem zero_or {b : Int} (h0 : 0 ≤ b) (h1 : b < 1073741824) : bits .or .u64 0 b = b := by
  rw [u64_or 0 b (by omega) (by omega) h0 (by omega)]
  simp; omega

theorem no_mono {a : Int} (h0 : 0 ≤ a) (h1 : a < 1073741824) : bits .and .u64 a 9223372036854775808 = 0 := by
  rw [u64_and a 9223372036854775808 h0 (by omega) (by omega) (by omega)]
  have e : (9223372036854775808 : Int).toNat = 2 ^ 63 := by decide
  rw [e, nat_bit, Nat.div_eq_of_lt (by omega)]
  rfl

theorem and_small {a b : Int} (h0 : 0 ≤ a) (h1 : a < 1073741824) (k0 : 0 ≤ b) (k1 : b < 1073741824) : 0 ≤ bits .and .u64 a b ∧ bits .and .u64 a b < 1073741824 := by
  rw [u64_and a b h0 (by omega) k0 (by omega)]
  have := Nat.and_le_left (n := a.toNat) (m := b.toNat)
  omega

end Go.Proofs.Qxb6605633a
