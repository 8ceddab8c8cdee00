import Derived.WalkKit
import Derived.Laws.BitsAllLaws
namespace Go.Proofs.YtgifkanoghmijaaGreatDoor
open Go.RowKit

theorem and_mask (n : Int) (m : Nat) (k : Nat) (hk : m = 2 ^ k - 1) (hm : m < 18446744073709551616) (h0 : 0 ≤ n) (h1 : n < 18446744073709551616) :
    bits .and .u64 n (m : Int) = n % ((2 ^ k : Nat) : Int) := by
  obtain ⟨a, rfl⟩ := Int.eq_ofNat_of_zero_le h0
  rw [u64_and_nat a m (by omega) hm, hk, Nat.and_two_pow_sub_one_eq_mod]; rfl

theorem and32 (n : Int) (h0 : 0 ≤ n) (h1 : n < 18446744073709551616) : bits .and .u64 n 4294967295 = n % 4294967296 :=
  and_mask n 4294967295 32 (by decide) (by decide) h0 h1
theorem and30 (n : Int) (h0 : 0 ≤ n) (h1 : n < 18446744073709551616) : bits .and .u64 n 1073741823 = n % 1073741824 :=
  and_mask n 1073741823 30 (by decide) (by decide) h0 h1
theorem and16 (n : Int) (h0 : 0 ≤ n) (h1 : n < 18446744073709551616) : bits .and .u64 n 65535 = n % 65536 :=
  and_mask n 65535 16 (by decide) (by decide) h0 h1
theorem and16u32 (n : Int) (h0 : 0 ≤ n) (h1 : n < 4294967296) : bits .and .u32 n 65535 = n % 65536 := by
  obtain ⟨a, rfl⟩ := Int.eq_ofNat_of_zero_le h0
  have := u32_and_nat a 65535 (by omega) (by decide)
  rw [show ((65535 : Nat) : Int) = 65535 from rfl] at this
  rw [this, nat_mask16]; rfl
theorem andTop (n : Int) (h0 : 0 ≤ n) (h1 : n < 9223372036854775808) : bits .and .u64 n 9223372036854775808 = 0 := by
  obtain ⟨a, rfl⟩ := Int.eq_ofNat_of_zero_le h0
  have h := u64_and_nat a 9223372036854775808 (by omega) (by decide)
  rw [show ((9223372036854775808 : Nat) : Int) = 9223372036854775808 from rfl] at h
  rw [h, show (9223372036854775808 : Nat) = 2 ^ 63 from by decide, nat_bit, Nat.div_eq_of_lt (by omega)]; rfl
theorem and3u8 (n : Int) (h0 : 0 ≤ n) (h1 : n < 256) : bits .and .u8 n 3 = n % 4 := by
  obtain ⟨a, rfl⟩ := Int.eq_ofNat_of_zero_le h0
  have h := u8_and_nat a 3 (by omega) (by decide)
  rw [show ((3 : Nat) : Int) = 3 from rfl] at h
  rw [h, nat_mask2]; rfl
theorem andAnd (n m : Int) (h0 : 0 ≤ n) (h1 : n < 1073741824) (h2 : 0 ≤ m) (h3 : m < 1073741824) : bits .and .u64 (bits .and .u64 n m) 9223372036854775808 = 0 := by
  obtain ⟨a, rfl⟩ := Int.eq_ofNat_of_zero_le h0
  obtain ⟨b, rfl⟩ := Int.eq_ofNat_of_zero_le h2
  rw [u64_and_nat a b (by omega) (by omega)]
  have : a &&& b ≤ a := Nat.and_le_left
  exact andTop _ (by omega) (by omega)
theorem andnot30 (n : Int) (h0 : 0 ≤ n) (h1 : n < 1073741824) : bits .andNot .u64 n 1073741823 = 0 := by
  obtain ⟨a, rfl⟩ := Int.eq_ofNat_of_zero_le h0
  have h := u64_andNot_nat a 1073741823 (by omega) (by decide)
  rw [show ((1073741823 : Nat) : Int) = 1073741823 from rfl] at h
  rw [h]
  have : a &&& (18446744073709551615 - 1073741823) = 0 := by
    apply Nat.eq_of_testBit_eq; intro i
    rw [Nat.testBit_and, Nat.zero_testBit]
    by_cases hi : i < 30
    · have : (18446744073709551615 - 1073741823 : Nat) = 2 ^ 30 * 17179869183 := by decide
      rw [this, Nat.testBit_two_pow_mul]; simp; omega
    · rw [Nat.testBit_lt_two_pow (x := a) (i := i) (Nat.lt_of_lt_of_le (by omega : a < 2 ^ 30) (Nat.pow_le_pow_right (by decide) (by omega)))]; rfl
  rw [this]; rfl
theorem or0 (n : Int) (h0 : 0 ≤ n) (h1 : n < 18446744073709551616) : bits .or .u64 0 n = n := by
  obtain ⟨a, rfl⟩ := Int.eq_ofNat_of_zero_le h0
  have h := u64_or_nat 0 a (by decide) (by omega)
  rw [show ((0 : Nat) : Int) = 0 from rfl] at h
  rw [h]; simp
end Go.Proofs.YtgifkanoghmijaaGreatDoor
