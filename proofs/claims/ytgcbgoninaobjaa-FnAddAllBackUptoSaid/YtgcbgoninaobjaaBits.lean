/-
  The bits of the wall word of a time without a clock reading: the mark is not set, the mask leaves the nanoseconds.
-/
import Derived.Laws.BitsAllLaws
namespace Go.Proofs.Ytgcbgoninaobjaa.Bits
open Go

theorem nat_low (n : Nat) (h : n < 1073741824) (x : Nat) (hx : x % 2 ^ 30 = 0) : n &&& x = 0 := by
  have h1 : n &&& x ≤ n := Nat.and_le_left
  have h2 : (n &&& x) % 2 ^ 30 = (n % 2 ^ 30) &&& (x % 2 ^ 30) := Nat.and_mod_two_pow
  rw [hx, Nat.and_zero, Nat.mod_eq_of_lt (by omega)] at h2
  exact h2

theorem mono (n : Int) (h0 : 0 ≤ n) (h1 : n < 1000000000) : bits .and .u64 n 9223372036854775808 = 0 := by
  rw [u64_and n 9223372036854775808 h0 (by omega) (by omega) (by omega), nat_low n.toNat (by omega) _ (by decide)]
  rfl

theorem both (n m : Int) (h0 : 0 ≤ n) (h1 : n < 1000000000) (h2 : 0 ≤ m) (h3 : m < 1000000000) : bits .and .u64 (bits .and .u64 n m) 9223372036854775808 = 0 := by
  rw [u64_and n m h0 (by omega) h2 (by omega)]
  have h : n.toNat &&& m.toNat ≤ n.toNat := Nat.and_le_left
  exact mono _ (by omega) (by omega)

theorem mask (n : Int) (h0 : 0 ≤ n) (h1 : n < 1000000000) : bits .and .u64 n 1073741823 = n := by
  rw [u64_and n 1073741823 h0 (by omega) (by omega) (by omega)]
  have e : (1073741823 : Int).toNat = 2 ^ 30 - 1 := by decide
  rw [e, Nat.and_two_pow_sub_one_eq_mod]
  omega

theorem clear (n : Int) (h0 : 0 ≤ n) (h1 : n < 1000000000) : bits .andNot .u64 n 1073741823 = 0 := by
  rw [u64_andNot n 1073741823 h0 (by omega) (by omega) (by omega), nat_low n.toNat (by omega) _ (by decide)]
  rfl

theorem join (m : Int) (h0 : 0 ≤ m) (h1 : m < 1000000000) : bits .or .u64 0 m = m := by
  rw [u64_or 0 m (by omega) (by omega) h0 (by omega)]
  have e : (0 : Int).toNat = 0 := by decide
  rw [e, Nat.zero_or]
  omega

end Go.Proofs.Ytgcbgoninaobjaa.Bits
