import Derived.Test.Qxb6614088aRows
import Derived.Laws.Entries
import Derived.Laws.BitsLemmas
import Derived.Laws.Bits64
namespace Go.Proofs.Qxb6614088a.Tm

theorem ofInt_toNat (n : Int) (h0 : 0 ≤ n) (h1 : n < 18446744073709551616) : (BitVec.ofInt IntKind.u64.bits n).toNat = n.toNat := by
  show (BitVec.ofInt 64 n).toNat = n.toNat
  rw [BitVec.toNat_ofInt]
  have e : ((2 ^ 64 : Nat) : Int) = 18446744073709551616 := by decide
  rw [e]
  congr 1
  omega

theorem wrap_id (n : Int) (h0 : 0 ≤ n) (h1 : n < 18446744073709551616) : IntKind.u64.wrap n = n := by
  rw [IntKind.wrap_u64]; omega

theorem bits_mask30 (n : Int) (h0 : 0 ≤ n) (h1 : n < 1073741824) : bits .and .u64 n 1073741823 = n := by
  unfold bits
  simp only [BitVec.toNat_and]
  rw [ofInt_toNat n h0 (by omega), ofInt_toNat 1073741823 (by omega) (by omega)]
  have e : (1073741823 : Int).toNat = 2 ^ 30 - 1 := by decide
  rw [e, Nat.and_two_pow_sub_one_eq_mod]
  have e2 : (2 : Nat) ^ 30 = 1073741824 := by decide
  rw [e2, Nat.mod_eq_of_lt (by omega), wrap_id _ (by omega) (by omega)]
  omega

theorem and_bit63 (a : Nat) (h : a < 1073741824) : a &&& 2 ^ 63 = 0 := by
  have e : a = a &&& (2 ^ 30 - 1) := by
    rw [Nat.and_two_pow_sub_one_eq_mod]
    have e2 : (2 : Nat) ^ 30 = 1073741824 := by decide
    rw [e2, Nat.mod_eq_of_lt h]
  rw [e, Nat.and_assoc]
  have e3 : ((2 : Nat) ^ 30 - 1) &&& 2 ^ 63 = 0 := by decide
  rw [e3, Nat.and_zero]

theorem bits_bit63 (n : Int) (h0 : 0 ≤ n) (h1 : n < 1073741824) : bits .and .u64 n 9223372036854775808 = 0 := by
  unfold bits
  simp only [BitVec.toNat_and]
  rw [ofInt_toNat n h0 (by omega), ofInt_toNat 9223372036854775808 (by omega) (by omega)]
  have e : (9223372036854775808 : Int).toNat = 2 ^ 63 := by decide
  rw [e, and_bit63 n.toNat (by omega)]
  decide

theorem bits_and0 (n : Int) (h0 : 0 ≤ n) (h1 : n < 1073741824) : bits .and .u64 n 0 = 0 := by
  unfold bits
  simp only [BitVec.toNat_and]
  rw [ofInt_toNat n h0 (by omega), ofInt_toNat 0 (by omega) (by omega)]
  simp [wrap_id]

theorem bits_or0 (n : Int) (h0 : 0 ≤ n) (h1 : n < 1073741824) : bits .or .u64 0 n = n := by
  unfold bits
  simp only [BitVec.toNat_or]
  rw [ofInt_toNat n h0 (by omega), ofInt_toNat 0 (by omega) (by omega)]
  simp only [Int.toNat_zero, Nat.zero_or]
  rw [wrap_id _ (by omega) (by omega)]
  omega
theorem bits_same (n : Int) (h0 : 0 ≤ n) (h1 : n < 1073741824) : bits .and .u64 n n = n := by
  unfold bits
  simp only [BitVec.toNat_and]
  rw [ofInt_toNat n h0 (by omega), Nat.and_self, wrap_id _ (by omega) (by omega)]
  omega
theorem bits_andNot0 : bits .andNot .u64 0 1073741823 = 0 := by decide
end Go.Proofs.Qxb6614088a.Tm
