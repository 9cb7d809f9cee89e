/-
  The plain mathematics of the reference's rest: a remainder bit by bit.
-/
import Derived.Test.YtmdhpkhmmnmdlaaPlain
namespace Go.Proofs.Ytmdhpkhmmnmdlaa.RestP
set_option linter.unusedVariables false

theorem half_pow (A : Int) (j : Nat) : A / 2 ^ (j + 1) = A / 2 ^ j / 2 := by
  rw [Int.pow_succ, Int.ediv_ediv_of_nonneg (Int.pow_nonneg (by omega))]

theorem double (d X b : Int) : ((X % d + X % d) % d + b) % d = (2 * X + b) % d := by
  have e : (X % d + X % d) % d = (X + X) % d := by rw [← Int.add_emod]
  rw [e, Int.emod_add_emod]
  congr 1; omega

/-- One bit more of a number. -/
theorem step (A d : Int) (j : Nat) : ((A / 2 ^ (j + 1) % d + A / 2 ^ (j + 1) % d) % d + A / 2 ^ j % 2) % d = A / 2 ^ j % d := by
  rw [double, half_pow]
  congr 1; omega

/-- One bit more of a factor. -/
theorem stepm (A R d : Int) (j : Nat) : (((R * (A / 2 ^ (j + 1)) % d + R * (A / 2 ^ (j + 1)) % d) % d + 0) % d + (if A / 2 ^ j % 2 = 1 then R else 0)) % d = R * (A / 2 ^ j) % d := by
  rw [double, Int.emod_add_emod, half_pow]
  congr 1
  obtain ⟨y, hy⟩ : ∃ y, y = A / 2 ^ j := ⟨_, rfl⟩
  rw [← hy]
  by_cases h : y % 2 = 1
  · rw [if_pos h]
    have e : y = 2 * (y / 2) + 1 := by omega
    have e2 : R * y = 2 * (R * (y / 2)) + R := by
      have : R * y = R * (2 * (y / 2) + 1) := by rw [← e]
      rw [this, Int.mul_add, Int.mul_one, Int.mul_left_comm]
    omega
  · rw [if_neg h]
    have e : y = 2 * (y / 2) := by omega
    have e2 : R * y = 2 * (R * (y / 2)) := by
      have : R * y = R * (2 * (y / 2)) := by rw [← e]
      rw [this, Int.mul_left_comm]
    omega

theorem start63 {A d : Int} (h0 : 0 ≤ A) (h1 : A ≤ 4000000000000000001) : (0 : Int) = A / 2 ^ 63 % d := by
  have e : (2 : Int) ^ 63 = 9223372036854775808 := by decide
  have e2 : A / 9223372036854775808 = 0 := by omega
  rw [e, e2, Int.zero_emod]
theorem start31 {R d : Int} : (0 : Int) = R * (1000000000 / 2 ^ 31) % d := by
  have e : (1000000000 : Int) / 2 ^ 31 = 0 := by decide
  rw [e, Int.mul_zero, Int.zero_emod]

theorem neg_mod {s d : Int} (hd : 0 < d) : (d - -s % d) % d = s % d := by
  have e : d - -s % d = s + d * (1 + -s / d) := by
    have := Int.mul_ediv_add_emod (-s) d
    rw [Int.mul_add, Int.mul_one]; omega
  rw [e, Int.add_mul_emod_self_left]

theorem last {s n z d : Int} (h : s * 1000000000 + n = z) : (s % d * 1000000000 % d + n % d) % d = z % d := by
  rw [← Int.add_emod, Int.add_emod, Int.mul_emod, Int.emod_emod_of_dvd _ (Int.dvd_refl d), ← Int.mul_emod, ← Int.add_emod, h]

end Go.Proofs.Ytmdhpkhmmnmdlaa.RestP
