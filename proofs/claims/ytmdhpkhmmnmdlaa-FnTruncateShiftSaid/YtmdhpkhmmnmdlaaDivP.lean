/-
  The plain mathematics of time.div's general case: a number of 128 bits in two words, divided by shifting and subtracting.
-/
import Derived.Test.YtmdhpkhmmnmdlaaPlain
import Derived.Laws.BitsAllLaws
namespace Go.Proofs.Ytmdhpkhmmnmdlaa.DivP
open Go
set_option linter.unusedVariables false

/-- The divisor's first word, shifted. -/
def Sh (d x : Int) : Prop := (∃ j : Nat, x = d * 2 ^ j) ∧ 0 < x
theorem Sh.start {d : Int} (h : 1 ≤ d) : Sh d d := ⟨⟨0, by simp⟩, by omega⟩
theorem Sh.next {d x : Int} (h : Sh d x) : Sh d (x * 2) := by
  obtain ⟨⟨j, hj⟩, h0⟩ := h
  exact ⟨⟨j + 1, by rw [hj, Int.pow_succ, Int.mul_assoc]⟩, by omega⟩

/-- At the head of a round. -/
def Inv (V d U1 U0 E1 E0 : Int) : Prop :=
  (∃ j : Nat, E1 * 18446744073709551616 + E0 = d * 2 ^ j) ∧ (U1 * 18446744073709551616 + U0) % d = V % d ∧ U1 * 18446744073709551616 + U0 < 2 * (E1 * 18446744073709551616 + E0) ∧
    (0 ≤ U1 ∧ U1 ≤ 18446744073709551615) ∧ (0 ≤ U0 ∧ U0 ≤ 18446744073709551615) ∧ (0 ≤ E1 ∧ E1 ≤ 18446744073709551615) ∧ (0 ≤ E0 ∧ E0 ≤ 18446744073709551615)
/-- Behind the subtraction. -/
def Half (V d U1 U0 E1 E0 : Int) : Prop :=
  (∃ j : Nat, E1 * 18446744073709551616 + E0 = d * 2 ^ j) ∧ (U1 * 18446744073709551616 + U0) % d = V % d ∧ U1 * 18446744073709551616 + U0 < E1 * 18446744073709551616 + E0 ∧
    (0 ≤ U1 ∧ U1 ≤ 18446744073709551615) ∧ (0 ≤ U0 ∧ U0 ≤ 18446744073709551615) ∧ (0 ≤ E1 ∧ E1 ≤ 18446744073709551615) ∧ (0 ≤ E0 ∧ E0 ≤ 18446744073709551615)

theorem inv_start {V d x U1 U0 : Int} (h : Sh d x) (hx : 9223372036854775808 ≤ x) (hx' : x ≤ 18446744073709551615) (hV : U1 * 18446744073709551616 + U0 = V) (hu : 0 ≤ U1 ∧ U1 ≤ 9223372036854775807) (hu0 : 0 ≤ U0 ∧ U0 ≤ 18446744073709551615) : Inv V d U1 U0 x 0 := by
  obtain ⟨⟨j, hj⟩, h0⟩ := h
  refine ⟨⟨j + 64, ?_⟩, by rw [hV], by omega, by omega, hu0, by omega, by omega⟩
  rw [Int.pow_add, ← Int.mul_assoc, ← hj]
  omega

theorem keep {V d U1 U0 E1 E0 : Int} (h : Inv V d U1 U0 E1 E0) (lt : U1 * 18446744073709551616 + U0 < E1 * 18446744073709551616 + E0) : Half V d U1 U0 E1 E0 :=
  ⟨h.1, h.2.1, lt, h.2.2.2⟩

theorem take {V d U1 U0 E1 E0 X1 X0 : Int} (h : Inv V d U1 U0 E1 E0) (e : X1 * 18446744073709551616 + X0 = U1 * 18446744073709551616 + U0 - (E1 * 18446744073709551616 + E0)) (h1 : 0 ≤ X1 ∧ X1 ≤ 18446744073709551615) (h0 : 0 ≤ X0 ∧ X0 ≤ 18446744073709551615) : Half V d X1 X0 E1 E0 := by
  obtain ⟨⟨j, hj⟩, hm, hl, _, _, he1, he0⟩ := h
  refine ⟨⟨j, hj⟩, ?_, by omega, h1, h0, he1, he0⟩
  rw [e, hj, ← hm, Int.sub_mul_emod_self_left]

theorem done {V d U1 U0 : Int} (h : Half V d U1 U0 0 d) : U1 = 0 ∧ U0 = V % d := by
  obtain ⟨_, hm, hl, hu1, hu0, _, _⟩ := h
  have e1 : U1 = 0 := by omega
  subst e1
  refine ⟨rfl, ?_⟩
  rw [← hm, Int.emod_eq_of_lt (by omega) (by omega)]
  omega

theorem next {V d U1 U0 E1 E0 : Int} (h : Half V d U1 U0 E1 E0) (ne : ¬ (E1 = 0 ∧ E0 = d)) (hd : d ≤ 9223372036854775807) : Inv V d U1 U0 (E1 / 2) (E0 / 2 + E1 % 2 * 9223372036854775808) := by
  obtain ⟨⟨j, hj⟩, hm, hl, hu1, hu0, he1, he0⟩ := h
  cases j with
  | zero =>
    rw [Int.pow_zero, Int.mul_one] at hj
    exact absurd (show E1 = 0 ∧ E0 = d by omega) ne
  | succ j =>
    rw [Int.pow_succ, ← Int.mul_assoc] at hj
    refine ⟨⟨j, by omega⟩, hm, by omega, hu1, hu0, by omega, by omega⟩

theorem smaller {V d U1 U0 E1 E0 : Int} (h : Half V d U1 U0 E1 E0) (hd0 : 1 ≤ d) : (E1 / 2 * 18446744073709551616 + (E0 / 2 + E1 % 2 * 9223372036854775808)).toNat < (E1 * 18446744073709551616 + E0).toNat := by
  obtain ⟨⟨j, hj⟩, hm, hl, hu1, hu0, he1, he0⟩ := h
  omega

theorem low_bit (x : Int) (h0 : 0 ≤ x) (h1 : x ≤ 18446744073709551615) : bits .and .u64 x 1 = x % 2 := by
  rw [u64_and x 1 h0 (by omega) (by omega) (by omega)]
  have e : (1 : Int).toNat = 1 := by decide
  rw [e, nat_mask1]
  omega
theorem low_word (x : Int) (h0 : 0 ≤ x) (h1 : x ≤ 18446744073709551615) : bits .and .u64 x 4294967295 = x % 4294967296 := by
  rw [u64_and x 4294967295 h0 (by omega) (by omega) (by omega)]
  have e : (4294967295 : Int).toNat = 2 ^ 32 - 1 := by decide
  rw [e, Nat.and_two_pow_sub_one_eq_mod]
  omega
theorem top_bit (y b : Int) (h0 : 0 ≤ y) (h1 : y ≤ 9223372036854775807) (hb : b = 0 ∨ b = 1) : bits .or .u64 y (b * 9223372036854775808) = y + b * 9223372036854775808 := by
  rw [u64_or y (b * 9223372036854775808) h0 (by omega) (by omega) (by omega), Nat.or_comm]
  have e : (b * 9223372036854775808).toNat % 2 ^ 63 = 0 := by rcases hb with rfl | rfl <;> decide
  rw [nat_join 63 _ _ e (by omega)]
  omega

/-- The product of the seconds and a second, and the nanoseconds, in two words. -/
theorem words {S N H L p x0 x1 x2 P1 P2 : Int} (hS : 0 ≤ S) (hS' : S ≤ 4000000000000000001) (hN : 0 ≤ N) (hN' : N < 1000000000) (hH : H = S / 4294967296) (hL : L = S % 4294967296)
    (hp : p = H * 1000000000 / 4294967296) (h0 : x0 = H * 1000000000 * 4294967296 % 18446744073709551616) (h1 : x1 = (x0 + L * 1000000000) % 18446744073709551616) (h2 : x2 = (x1 + N) % 18446744073709551616)
    (hP1 : (x1 < x0 ∧ P1 = p + 1) ∨ (¬ x1 < x0 ∧ P1 = p)) (hP2 : (x2 < x1 ∧ P2 = P1 + 1) ∨ (¬ x2 < x1 ∧ P2 = P1)) :
    P2 * 18446744073709551616 + x2 = S * 1000000000 + N ∧ 0 ≤ P2 ∧ P2 ≤ 9223372036854775807 ∧ 0 ≤ x2 ∧ x2 ≤ 18446744073709551615 := by
  obtain ⟨T, hT⟩ : ∃ T, T = H * 1000000000 := ⟨_, rfl⟩
  rw [← hT] at hp h0
  have a1 : p * 18446744073709551616 + x0 = T * 4294967296 ∧ 0 ≤ x0 ∧ x0 ≤ 18446744073709551615 := by clear h1 h2 hP1 hP2 hT hH hL; omega
  have bL : 0 ≤ L ∧ L ≤ 4294967295 := by clear h1 h2 hP1 hP2 hT hH a1 h0 hp; omega
  obtain ⟨K, hK⟩ : ∃ K, K = L * 1000000000 := ⟨_, rfl⟩
  rw [← hK] at h1
  have bK : 0 ≤ K ∧ K < 18446744073709551616 := by omega
  have a2 : P1 * 18446744073709551616 + x1 = p * 18446744073709551616 + x0 + K ∧ 0 ≤ x1 ∧ x1 ≤ 18446744073709551615 := by clear h2 hP2 hT hH hL h0 hp hK; omega
  have a3 : P2 * 18446744073709551616 + x2 = P1 * 18446744073709551616 + x1 + N ∧ 0 ≤ x2 ∧ x2 ≤ 18446744073709551615 := by clear hP1 h1 hT hH hL h0 hp hK a1; omega
  clear h0 h1 h2 hP1 hP2 hp
  have e : P2 * 18446744073709551616 + x2 = S * 1000000000 + N := by omega
  refine ⟨e, ?_, ?_, a3.2.1, a3.2.2⟩
  · clear hH hL a1 a2 hT hK; omega
  · clear hH hL a1 a2 hT hK; omega

end Go.Proofs.Ytmdhpkhmmnmdlaa.DivP
