/-
  The plain mathematics of instants: a whole number of nanoseconds since the zero time, durations of 64 bits, the parts of an instant, truncating and rounding. No program in sight.
-/
namespace Go.Proofs.Ytgcbgoninaobjaa.Plain

/-- The duration that is nearest to a whole number of nanoseconds. -/
def cl (z : Int) : Int := max (-9223372036854775808) (min 9223372036854775807 z)
/-- The second part of an instant. -/
def p2 (z : Int) : Int := cl (z - cl z)
/-- The order of two instants. -/
def sg (x y : Int) : Int := if x < y then -1 else if y < x then 1 else 0
/-- An instant rounded down. -/
def down (z d : Int) : Int := if d ≤ 0 then z else z - z % d
/-- An instant rounded to the nearest multiple, up if two are. -/
def near (z d : Int) : Int := if d ≤ 0 then z else if z % d < d - z % d then z - z % d else z + (d - z % d)
/-- A number of 64 bits. -/
def I64 (x : Int) : Prop := -9223372036854775808 ≤ x ∧ x ≤ 9223372036854775807

theorem cl_bd (z : Int) : -9223372036854775808 ≤ cl z ∧ cl z ≤ 9223372036854775807 := by unfold cl; omega
theorem cl_in {z : Int} (h1 : -9223372036854775808 ≤ z) (h2 : z ≤ 9223372036854775807) : cl z = z := by unfold cl; omega
theorem cl_hi {z : Int} (h : 9223372036854775807 ≤ z) : cl z = 9223372036854775807 := by unfold cl; omega
theorem cl_lo {z : Int} (h : z ≤ -9223372036854775808) : cl z = -9223372036854775808 := by unfold cl; omega
theorem p2_bd (z : Int) : -9223372036854775808 ≤ p2 z ∧ p2 z ≤ 9223372036854775807 := cl_bd _
theorem parts_add {z : Int} (h1 : -18446744073709551616 ≤ z) (h2 : z ≤ 18446744073709551614) : cl z + p2 z = z := by unfold p2 cl; omega

theorem down_pos {z d : Int} (h : 0 < d) : down z d = z - z % d := by unfold down; rw [if_neg (by omega)]
theorem down_le {z d : Int} (h : d ≤ 0) : down z d = z := by unfold down; rw [if_pos h]
theorem near_le {z d : Int} (h : d ≤ 0) : near z d = z := by unfold near; rw [if_pos h]
theorem near_lt {z d : Int} (h : 0 < d) (h' : z % d < d - z % d) : near z d = z - z % d := by unfold near; rw [if_neg (by omega), if_pos h']
theorem near_ge {z d : Int} (h : 0 < d) (h' : ¬ z % d < d - z % d) : near z d = z + (d - z % d) := by unfold near; rw [if_neg (by omega), if_neg h']
theorem mod_bd (z : Int) {d : Int} (h : 0 < d) : 0 ≤ z % d ∧ z % d < d := ⟨Int.emod_nonneg _ (by omega), Int.emod_lt_of_pos _ h⟩

theorem p2_zero {z : Int} (h1 : -9223372036854775808 ≤ z) (h2 : z ≤ 9223372036854775807) : p2 z = 0 := by unfold p2 cl; omega
theorem early_of {z : Int} (h1 : cl z = -9223372036854775808) (h2 : p2 z = -9223372036854775808) : z ≤ -18446744073709551616 := by unfold p2 at h2; unfold cl at h1 h2; omega
theorem early_mk {z : Int} (h : z ≤ -18446744073709551616) : cl z = -9223372036854775808 ∧ p2 z = -9223372036854775808 := by unfold p2 cl; omega
theorem late_mk {z : Int} (h : 18446744073709551614 ≤ z) : cl z = 9223372036854775807 ∧ p2 z = 9223372036854775807 := by unfold p2 cl; omega

theorem down_mul {z d : Int} (h : 0 < d) : down z d = d * (z / d) := by rw [down_pos h]; have := Int.mul_ediv_add_emod z d; omega
theorem down_mod {z d : Int} (h : 0 < d) : down z d % d = 0 := by rw [down_mul h]; exact Int.mul_emod_right _ _
theorem down_fix {z d : Int} (h : z % d = 0) : down z d = z := by unfold down; split <;> omega
theorem near_fix {z d : Int} (h : z % d = 0) : near z d = z := by unfold near; rw [h]; split <;> (try split) <;> omega
theorem down_mono {z y d : Int} (h : 0 < d) (hz : z ≤ y) : down z d ≤ down y d := by
  rw [down_mul h, down_mul h]
  exact Int.mul_le_mul_of_nonneg_left (Int.ediv_le_ediv h hz) (by omega)
theorem down_shift {z d : Int} (k : Int) (h : 0 < d) : down (z + k * d) d = down z d + k * d := by
  rw [down_pos h, down_pos h, Int.add_mul_emod_self_right]; omega
theorem near_shift {z d : Int} (k : Int) (h : 0 < d) : near (z + k * d) d = near z d + k * d := by
  unfold near; rw [Int.add_mul_emod_self_right]; split <;> (try split) <;> omega
theorem near_half {z d : Int} (h : 0 < d) : near z d = down (z + d / 2) d := by
  have hm := mod_bd z h
  have hz := Int.mul_ediv_add_emod z d
  by_cases c : z % d < d - z % d
  · rw [near_lt h c, down_pos h]
    have e : (z + d / 2) % d = z % d + d / 2 := by
      have : z + d / 2 = (z % d + d / 2) + d * (z / d) := by omega
      rw [this, Int.add_mul_emod_self_left, Int.emod_eq_of_lt (by omega) (by omega)]
    omega
  · rw [near_ge h c, down_pos h]
    have e : (z + d / 2) % d = z % d + d / 2 - d := by
      have : z + d / 2 = (z % d + d / 2 - d) + d * (z / d + 1) := by rw [Int.mul_add]; omega
      rw [this, Int.add_mul_emod_self_left, Int.emod_eq_of_lt (by omega) (by omega)]
    omega
theorem near_mono {z y d : Int} (h : 0 < d) (hz : z ≤ y) : near z d ≤ near y d := by
  rw [near_half h, near_half h]; exact down_mono h (by omega)
theorem near_mod {z d : Int} (h : 0 < d) : near z d % d = 0 := by rw [near_half h]; exact down_mod h
theorem down_step {z y d : Int} (h : 0 < d) (hz : z + d ≤ y) : down z d + d ≤ down y d := by
  have h1 := down_shift (z := z) 1 h
  have h2 := down_mono h hz
  rw [Int.one_mul] at h1
  omega
theorem near_step {z y d : Int} (h : 0 < d) (hz : z + d ≤ y) : near z d + d ≤ near y d := by
  have h1 := near_shift (z := z) 1 h
  have h2 := near_mono h hz
  rw [Int.one_mul] at h1
  omega
theorem down_finer {z d k : Int} (h : 0 < d) (hk : 0 < k) : down (down z d) (k * d) = down z (k * d) := by
  have hkd : 0 < k * d := Int.mul_pos hk h
  rw [down_mul hkd, down_mul hkd, down_mul h]
  have e1 : z / (k * d) = z / d / k := by rw [Int.mul_comm, Int.ediv_ediv_of_nonneg (by omega)]
  have e2 : d * (z / d) / (k * d) = z / d / k := by rw [Int.mul_comm k d, Int.mul_ediv_mul_of_pos _ _ h]
  rw [e1, e2]
theorem down_bd {z d : Int} (h : 0 < d) : z - d < down z d ∧ down z d ≤ z := by have := mod_bd z h; rw [down_pos h]; omega
theorem near_bd {z d : Int} (h : 0 < d) : z - d < near z d ∧ near z d < z + d ∧ down z d ≤ near z d ∧ near z d ≤ down z d + d := by
  have := mod_bd z h
  rw [down_pos h]
  by_cases c : z % d < d - z % d
  · rw [near_lt h c]; omega
  · rw [near_ge h c]; omega

/-- Seconds and nanoseconds of an instant, rounded down, are what division and remainder give. -/
theorem split_uniq {s n z : Int} (h : s * 1000000000 + n = z) (h0 : 0 ≤ n) (h1 : n < 1000000000) : s = z / 1000000000 ∧ n = z % 1000000000 := by omega

/-- A moment of s seconds and n nanoseconds is the instant z. -/
def At (z s n : Int) : Prop := s * 1000000000 + n = z ∧ 0 ≤ n ∧ n < 1000000000
/-- An instant whose seconds are far from the bounds of 64 bits. -/
def Far (z : Int) : Prop := -4000000000000000000000000000 ≤ z ∧ z ≤ 4000000000000000000000000000
theorem at_ex (z : Int) : ∃ s n, At z s n := ⟨z / 1000000000, z % 1000000000, by unfold At; omega⟩
theorem at_zero : At 0 0 0 := by unfold At; omega
theorem at_uniq {z s n s' n' : Int} (h : At z s n) (h' : At z s' n') : s = s' ∧ n = n' := by unfold At at h h'; omega
theorem far_sec {z s n : Int} (h : At z s n) (f : Far z) : -4000000000000000001 ≤ s ∧ s ≤ 4000000000000000000 := by unfold At at h; unfold Far at f; omega
theorem far_two {a b : Int} (ha : I64 a) (hb : I64 b) : Far (a + b) := by unfold I64 at *; unfold Far; omega
theorem far_one {a : Int} (ha : I64 a) : Far a := by unfold I64 at *; unfold Far; omega
theorem far_zero : Far 0 := by unfold Far; omega
theorem cl_i64 (z : Int) : I64 (cl z) := cl_bd z
theorem p2_i64 (z : Int) : I64 (p2 z) := p2_bd z

theorem sg_cases (x y : Int) : (x < y ∧ sg x y = -1) ∨ (x = y ∧ sg x y = 0) ∨ (y < x ∧ sg x y = 1) := by
  unfold sg
  by_cases h : x < y
  · exact .inl ⟨h, if_pos h⟩
  · by_cases k : y < x
    · exact .inr (.inr ⟨k, by rw [if_neg h, if_pos k]⟩)
    · exact .inr (.inl ⟨by omega, by rw [if_neg h, if_neg k]⟩)
theorem sg_lt {x y : Int} (h : x < y) : sg x y = -1 := by unfold sg; exact if_pos h
theorem sg_eq {x y : Int} (h : x = y) : sg x y = 0 := by unfold sg; rw [if_neg (by omega), if_neg (by omega)]
theorem sg_gt {x y : Int} (h : y < x) : sg x y = 1 := by unfold sg; rw [if_neg (by omega), if_pos h]

/-- Go's quotient and remainder by a second. -/
theorem by_second (d : Int) : d.tdiv 1000000000 * 1000000000 + d.tmod 1000000000 = d ∧ -1000000000 < d.tmod 1000000000 ∧ d.tmod 1000000000 < 1000000000 := by
  rcases Int.le_total 0 d with h | h
  · rw [Int.tdiv_eq_ediv_of_nonneg h, Int.tmod_eq_emod_of_nonneg h]; omega
  · obtain ⟨e, rfl⟩ : ∃ e, d = -e := ⟨-d, by omega⟩
    have he : 0 ≤ e := by omega
    rw [Int.neg_tdiv, Int.neg_tmod, Int.tdiv_eq_ediv_of_nonneg he, Int.tmod_eq_emod_of_nonneg he]; omega

end Go.Proofs.Ytgcbgoninaobjaa.Plain
