import Derived.Laws.BitsAllLaws
import Derived.RowKit
/-! Plain facts on 'n &^ 3' and on the number of zero bytes that pad appends. No walk. -/
namespace Go.Proofs.Qxb6602002a.padm
open Go Go.RowKit

theorem and_four (a : Nat) (h : a < 2 ^ 64) : a &&& (2 ^ 64 - 4) = a - a % 4 := by
  have e : a - a % 4 = (a / 4) * 4 := by omega
  rw [e]
  apply Nat.eq_of_testBit_eq
  intro i
  have hM : (2 ^ 64 - 4 : Nat) = (2 ^ 62 - 1) * 2 ^ 2 := by decide
  rw [Nat.testBit_and, hM, show (4 : Nat) = 2 ^ 2 by decide, Nat.testBit_mul_two_pow, Nat.testBit_mul_two_pow, Nat.testBit_two_pow_sub_one]
  by_cases hi : 2 ≤ i
  · have ht : (a / 2 ^ 2).testBit (i - 2) = a.testBit i := by
      rw [Nat.testBit_div_two_pow, show i - 2 + 2 = i by omega]
    rw [ht]
    by_cases hj : i - 2 < 62
    · simp [hi, hj]
    · have : a.testBit i = false := Nat.testBit_lt_two_pow (Nat.lt_of_lt_of_le h (Nat.pow_le_pow_right (by decide) (by omega)))
      simp [this]
  · simp [hi]

theorem i64_andNot3 (m : Int) (h0 : -9223372036854775808 ≤ m) (h1 : m ≤ 9223372036854775807) : bits .andNot .i64 m 3 = m - m % 4 := by
  show IntKind.i64.wrap ((BitVec.ofInt 64 m &&& ~~~BitVec.ofInt 64 3).toNat : Int) = _
  have h3 : (BitVec.ofInt 64 3).toNat = 3 := by decide
  have hm : (BitVec.ofInt 64 m).toNat = (m % 18446744073709551616).toNat := by rw [BitVec.toNat_ofInt]; rfl
  rw [BitVec.toNat_and, BitVec.toNat_not, h3, hm, show 2 ^ 64 - 1 - 3 = 2 ^ 64 - 4 by decide, and_four _ (by omega)]
  simp only [IntKind.wrap, IntKind.bits, IntKind.signed]
  simp
  split <;> omega

def pdd (n : Int) : Int := wrap64 (n + 3) - wrap64 (n + 3) % 4
def kOf (n : Int) : Nat := ((-n) % 4).toNat

theorem wrap64_bd (n : Int) : -9223372036854775808 ≤ wrap64 n ∧ wrap64 n ≤ 9223372036854775807 := by unfold wrap64; omega
theorem bits_pdd (n : Int) : bits .andNot .i64 (wrap64 (n + 3)) 3 = pdd n := i64_andNot3 _ (wrap64_bd _).1 (wrap64_bd _).2
theorem pdd_sub (n : Int) : wrap64 (pdd n - n) = (kOf n : Int) := by
  unfold pdd kOf wrap64; omega
theorem kOf_le (n : Int) : kOf n ≤ 3 := by unfold kOf; omega
end Go.Proofs.Qxb6602002a.padm
