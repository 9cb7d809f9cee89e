/-
  The contract of time.div for every instant and every positive duration; the contracts of Truncate and Round.
-/
import Derived.Test.YtmdhpkhmmnmdlaaDivG
import Derived.Test.YtmdhpkhmmnmdlaaApi
namespace Go.Proofs.Ytmdhpkhmmnmdlaa
open Go.RowKit
set_option linter.unusedVariables false

theorem mod_neg {V d : Int} (hd : 0 < d) : (V % d = 0 ∧ (-V) % d = V % d) ∨ (V % d ≠ 0 ∧ (-V) % d = d - V % d) := by
  have hm := Plain.mod_bd V hd
  have hV := Int.mul_ediv_add_emod V d
  by_cases h : V % d = 0
  · refine .inl ⟨h, ?_⟩
    have e : -V = 0 + d * (-(V / d)) := by rw [Int.mul_neg]; omega
    rw [e, Int.add_mul_emod_self_left, h]; rfl
  · refine .inr ⟨h, ?_⟩
    have e : -V = (d - V % d) + d * (-(V / d) - 1) := by rw [Int.mul_sub, Int.mul_neg]; omega
    rw [e, Int.add_mul_emod_self_left, Int.emod_eq_of_lt (by omega) (by omega)]

theorem abs_ex {z s n : Int} (h : Plain.At z s n) (f : Plain.Far z) (d : Int) (hd : 0 < d) : ∃ (S N V : Int) (neg : Bool), AbsOf s n S N neg ∧ 0 ≤ N ∧ N < 1000000000 ∧ 0 ≤ S ∧ S ≤ 4000000000000000001 ∧ V = S * 1000000000 + N ∧ Turn neg (V % d) d (z % d) := by
  obtain ⟨h1, h2, h3⟩ := h
  unfold Plain.Far at f
  by_cases hs : s < 0
  · refine ⟨-z / 1000000000, -z % 1000000000, -z, true, ⟨.inr ⟨rfl, hs, by omega⟩, by omega, by omega⟩, by omega, by omega, by omega, by omega, by omega, ?_⟩
    have := mod_neg (V := -z) hd
    rw [Int.neg_neg] at this
    rcases this with ⟨a, b⟩ | ⟨a, b⟩
    · exact .inr (.inl ⟨rfl, a, b⟩)
    · exact .inr (.inr ⟨rfl, a, b⟩)
  · exact ⟨s, n, z, false, ⟨.inl ⟨rfl, by omega, rfl, rfl⟩, h2, h3⟩, h2, h3, by omega, by omega, h1.symm, .inl ⟨rfl, rfl⟩⟩

theorem small_mod {S N d : Int} (hd : 0 < d) (h : 1000000000 % (d + d) = 0) : (S * 1000000000 + N) % d = N % d := by
  obtain ⟨t, ht⟩ := Int.dvd_of_emod_eq_zero h
  have e : S * 1000000000 + N = N + d * (2 * t * S) := by
    have e1 : (1000000000 : Int) = 2 * (d * t) := by rw [ht, Int.add_mul]; omega
    have e2 : d * (2 * t * S) = S * (2 * (d * t)) := by
      rw [Int.mul_comm S, Int.mul_assoc 2 t S, Int.mul_left_comm d 2, Int.mul_assoc 2 (d * t) S, Int.mul_assoc d t S]
    rw [e2, ← e1]; omega
  rw [e, Int.add_mul_emod_self_left]

theorem whole_mod {S N d : Int} (hN : 0 ≤ N) (hN' : N < 1000000000) (hd : 1000000000 ≤ d) (h : d % 1000000000 = 0) : (S * 1000000000 + N) % d = S % (d / 1000000000) * 1000000000 + N := by
  obtain ⟨D, hD⟩ : ∃ D, D = d / 1000000000 := ⟨_, rfl⟩
  have e : d = D * 1000000000 := by omega
  have hD0 : 0 < D := by omega
  have hm := Plain.mod_bd S hD0
  have hq := Int.mul_ediv_add_emod S D
  rw [← hD]
  have e2 : S * 1000000000 + N = (S % D * 1000000000 + N) + d * (S / D) := by
    have : d * (S / D) = D * (S / D) * 1000000000 := by rw [e, Int.mul_assoc, Int.mul_comm 1000000000, ← Int.mul_assoc]
    rw [this]; omega
  rw [e2, Int.add_mul_emod_self_left, Int.emod_eq_of_lt (by omega) (by omega)]

theorem div_any (z d s n r : Int) (w : World) (h : Plain.At z s n) (f : Plain.Far z) (id : Plain.I64 d) (d0 : 0 < d) (hr : r = z % d) :
    Calls Try.prog 40 #[.agg #[.int .u64 n, .int .i64 s, .pointer none], .int .i64 d] w (DivRet r w) := by
  obtain ⟨S, N, V, neg, hA, c0, c1, e0, e1, hV, hT⟩ := abs_ex h f d d0
  rw [← hr] at hT
  have g := Plain.far_sec h f
  have d1 : d ≤ 9223372036854775807 := id.2
  by_cases k1 : d < 1000000000 ∧ 1000000000 % (d + d) = 0
  · have hm := Plain.mod_bd N d0
    rw [hV, small_mod d0 k1.2] at hT
    refine div_small s n d S N r neg w h.2.1 h.2.2 g.1 g.2 (Lib.hid hA) c0 c1 e0 e1 (by omega) k1.1 (by simpa using k1.2) _ _ rfl rfl hm.1 hm.2 (Int.ediv_nonneg c0 (by omega)) ?_ hT
    exact Int.lt_of_le_of_lt (Int.ediv_le_self _ c0) c1
  by_cases k2 : d % 1000000000 = 0
  · have k3 : 1000000000 ≤ d := by omega
    have hD : 1 ≤ d / 1000000000 := by omega
    have hm := Plain.mod_bd S (d := d / 1000000000) (by omega)
    rw [hV, whole_mod c0 c1 k3 k2] at hT
    exact div_whole s n d S N r neg w h.2.1 h.2.2 g.1 g.2 (Lib.hid hA) c0 c1 e0 e1 (by omega) d1 (by simpa using k2) k3 _ _ _ rfl hD (by omega) rfl rfl hm.1 hm.2 (Int.ediv_nonneg e0 (by omega)) (Int.le_trans (Int.ediv_le_self _ e0) e1) hT
  · obtain ⟨H, hH⟩ : ∃ H, H = S / 4294967296 := ⟨_, rfl⟩
    obtain ⟨L, hL⟩ : ∃ L, L = S % 4294967296 := ⟨_, rfl⟩
    obtain ⟨p, hp⟩ : ∃ p, p = H * 1000000000 / 4294967296 := ⟨_, rfl⟩
    obtain ⟨x0, h0⟩ : ∃ x0, x0 = H * 1000000000 * 4294967296 % 18446744073709551616 := ⟨_, rfl⟩
    obtain ⟨x1, h1⟩ : ∃ x1, x1 = (x0 + L * 1000000000) % 18446744073709551616 := ⟨_, rfl⟩
    obtain ⟨x2, h2⟩ : ∃ x2, x2 = (x1 + N) % 18446744073709551616 := ⟨_, rfl⟩
    obtain ⟨P1, hP1⟩ : ∃ P1, (x1 < x0 ∧ P1 = p + 1) ∨ (¬ x1 < x0 ∧ P1 = p) := by
      by_cases t : x1 < x0
      · exact ⟨_, .inl ⟨t, rfl⟩⟩
      · exact ⟨_, .inr ⟨t, rfl⟩⟩
    obtain ⟨P2, hP2⟩ : ∃ P2, (x2 < x1 ∧ P2 = P1 + 1) ∨ (¬ x2 < x1 ∧ P2 = P1) := by
      by_cases t : x2 < x1
      · exact ⟨_, .inl ⟨t, rfl⟩⟩
      · exact ⟨_, .inr ⟨t, rfl⟩⟩
    have hw := DivP.words e0 e1 c0 c1 hH hL hp h0 h1 h2 hP1 hP2
    rw [← hV] at hw
    have bH : 0 ≤ H ∧ H ≤ 1000000000 := by clear h0 h1 h2 hP1 hP2 hw hp hL; omega
    have bL : 0 ≤ L ∧ L ≤ 4294967295 := by clear h0 h1 h2 hP1 hP2 hw hp hH; omega
    have bp : 0 ≤ p ∧ p ≤ 1000000000 := by clear h0 h1 h2 hP1 hP2 hw hL hH; omega
    refine div_general s n d S N r neg w h.2.1 h.2.2 g.1 g.2 (Lib.hid hA) c0 c1 e0 e1 (by omega) d1 (fun c => ?_) (by simpa using k2) H L p x0 x1 x2 P1 P2 V hH.symm bH.1 (by omega) (by rw [hL]; exact DivP.low_word S e0 (by omega)) bL.1 bL.2 hp.symm bp.1 (by omega) (by rw [h0, IntKind.wrap_u64]) (by rw [h1, IntKind.wrap_u64]) (by rw [h2, IntKind.wrap_u64]) (Lib.hid hP1) (Lib.hid hP2) (by clear hw h0 h1 h2 hP2; omega) (by clear hw h0 h1 h2 hP2; omega) (Lib.hid hw) (Lib.hid hT)
    have : ¬ 1000000000 % (d + d) = 0 := fun e => k1 ⟨c, e⟩
    simpa using this

end Go.Proofs.Ytmdhpkhmmnmdlaa
