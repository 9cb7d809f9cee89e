/-
  More plain mathematics: when parts tell an instant, and what rounding does to them.
-/
import Derived.Test.YtmdhpkhmmnmdlaaPlain
namespace Go.Proofs.Ytmdhpkhmmnmdlaa.Plain

theorem not_early {T f r : Int} (hf : f = cl T) (hr : r = p2 T) (h : ¬ (f = -9223372036854775808 ∧ r = -9223372036854775808)) (hu : T ≤ 18446744073709551614) : f + r = T ∧ -18446744073709551616 < T := by
  have h1 : -18446744073709551616 < T := by
    by_cases c : T ≤ -18446744073709551616
    · have := early_mk c; rw [← hf, ← hr] at this; exact absurd this h
    · omega
  exact ⟨by rw [hf, hr]; exact parts_add (by omega) hu, h1⟩
theorem not_late {T f r : Int} (hf : f = cl T) (hr : r = p2 T) (h : ¬ (f = 9223372036854775807 ∧ r = 9223372036854775807)) (hl : -18446744073709551616 ≤ T) : f + r = T ∧ T < 18446744073709551614 := by
  have h1 : T < 18446744073709551614 := by
    by_cases c : 18446744073709551614 ≤ T
    · have := late_mk c; rw [← hf, ← hr] at this; exact absurd this h
    · omega
  exact ⟨by rw [hf, hr]; exact parts_add hl (by omega), h1⟩
theorem not_both {T f r : Int} (hf : f = cl T) (hr : r = p2 T) (h : ¬ (f = -9223372036854775808 ∧ r = -9223372036854775808)) (h' : ¬ (f = 9223372036854775807 ∧ r = 9223372036854775807)) : f + r = T ∧ -18446744073709551616 < T ∧ T < 18446744073709551614 := by
  have h1 : -18446744073709551616 < T := by
    by_cases c : T ≤ -18446744073709551616
    · have := early_mk c; rw [← hf, ← hr] at this; exact absurd this h
    · omega
  have h2 := not_late hf hr h' (by omega)
  exact ⟨h2.1, h1, h2.2⟩
theorem sum_of {T f r : Int} (hf : f = cl T) (hr : r = p2 T) (h1 : -18446744073709551616 ≤ T) (h2 : T ≤ 18446744073709551614) : f + r = T := by rw [hf, hr]; exact parts_add h1 h2
theorem range_two {a b : Int} (ha : I64 a) (hb : I64 b) : -18446744073709551616 ≤ a + b ∧ a + b ≤ 18446744073709551614 := by unfold I64 at *; omega
theorem i64_cl {f T : Int} (h : f = cl T) : I64 f := by rw [h]; exact cl_i64 T
theorem i64_p2 {f T : Int} (h : f = p2 T) : I64 f := by rw [h]; exact p2_i64 T
theorem cl_sub {x y b : Int} (h : x - y = b) (h1 : -9223372036854775808 ≤ b) (h2 : b ≤ 9223372036854775807) : b = cl (x - y) := by rw [h]; exact (cl_in h1 h2).symm

end Go.Proofs.Ytmdhpkhmmnmdlaa.Plain
