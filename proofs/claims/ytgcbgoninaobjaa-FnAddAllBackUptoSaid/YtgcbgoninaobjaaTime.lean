/-
  Contracts of package time's functions that this program reaches, at times without a clock reading and without a location. A time is told by the whole number of nanoseconds since the zero time.
-/
import Derived.Test.YtgcbgoninaobjaaProg
import Derived.Test.YtgcbgoninaobjaaPlain
import Derived.Test.YtgcbgoninaobjaaBits
import Derived.WalkKit
import Derived.WalkSpells
import Derived.WalkLawsBesides
import Derived.Deep.QuietTactic
import Derived.BigQuiet
import Derived.Lib.Hide
import Derived.KernelRfl
namespace Go.Proofs.Ytgcbgoninaobjaa
open Go.RowKit

set_option maxHeartbeats 400000 in
theorem nsec_any (b o : Nat) (n : Int) (w : World) (hc : w.cell? ⟨b, o, none⟩ = some (.int .u64 n)) (h0 : 0 ≤ n) (h1 : n < 1000000000) :
    Calls Try.prog 43 #[.pointer (some ⟨b, o, none⟩)] w fun e w' => e = .returned (.int .i32 n) ∧ w = w' := by
  have hm := Bits.mask n h0 h1
  go_enter Try.func43, Try.ntmps43
  go_wp2
  go_ret
  exact ⟨rfl, rfl⟩

set_option maxHeartbeats 400000 in
theorem sec_any (b o : Nat) (s n : Int) (w : World) (hc : w.cell? ⟨b, o, none⟩ = some (.int .u64 n)) (hd : w.cell? ⟨b, o + 1, none⟩ = some (.int .i64 s)) (h0 : 0 ≤ n) (h1 : n < 1000000000) :
    Calls Try.prog 42 #[.pointer (some ⟨b, o, none⟩)] w fun e w' => e = .returned (.int .i64 s) ∧ w = w' := by
  have hm := Bits.mono n h0 h1
  go_enter Try.func42, Try.ntmps42
  go_wp2
  go_ret
  exact ⟨rfl, rfl⟩

set_option maxHeartbeats 1000000 in
theorem addSec_any (b o : Nat) (s n d : Int) (w : World) (hc : w.cell? ⟨b, o, none⟩ = some (.int .u64 n)) (hd : w.cell? ⟨b, o + 1, none⟩ = some (.int .i64 s)) (hf : w.frozen? ⟨b, o + 1, none⟩ = false) (h0 : 0 ≤ n) (h1 : n < 1000000000)
    (hs0 : -6000000000000000000 ≤ s) (hs1 : s ≤ 6000000000000000000) (hd0 : -1000000000000000000 ≤ d) (hd1 : d ≤ 1000000000000000000) :
    Calls Try.prog 45 #[.pointer (some ⟨b, o, none⟩), .int .i64 d] w fun e w' => e = .returned (.tuple #[]) ∧ w.setCell ⟨b, o + 1, none⟩ (.int .i64 (s + d)) = w' := by
  have hm := Bits.mono n h0 h1
  have t1 : decide (s < s + d) = decide (0 < d) := by rw [decide_eq_decide]; omega
  go_enter Try.func45, Try.ntmps45
  go_wp2
  go_end0
  exact ⟨rfl, rfl⟩

theorem ret_tm {s n s' n' : Int} (h1 : s = s') (h2 : n = n') : Ending.returned (.agg #[.int .u64 n, .int .i64 s, .pointer none]) = .returned (.agg #[.int .u64 n', .int .i64 s', .pointer none]) := by rw [h1, h2]

theorem two_new (w : World) (o1 o2 : Obj) : Below w.heap.size w ((w.alloc o1).alloc o2) :=
  ((Below.refl _ _).alloc (Nat.le_refl _) _).alloc (by simp) _

set_option maxHeartbeats 1000000 in
theorem add_core (s n d q m c : Int) (w : World) (h0 : 0 ≤ n) (h1 : n < 1000000000) (hs0 : -4611686018427387904 ≤ s) (hs1 : s ≤ 4611686018427387904)
    (hq : d.tdiv 1000000000 = q) (hm : d.tmod 1000000000 = m) (hq0 : -9223372037 ≤ q) (hq1 : q ≤ 9223372037) (hm0 : -1000000000 < m) (hm1 : m < 1000000000)
    (hc : (c = 1 ∧ 1000000000 ≤ n + m) ∨ (c = -1 ∧ n + m < 0) ∨ (c = 0 ∧ 0 ≤ n + m ∧ n + m < 1000000000)) :
    Calls Try.prog 37 #[.agg #[.int .u64 n, .int .i64 s, .pointer none], .int .i64 d] w fun e w' => e = .returned (.agg #[.int .u64 (n + m - c * 1000000000), .int .i64 (s + q + c), .pointer none]) ∧ Below w.heap.size w w' := by
  have b1 := Bits.mono n h0 h1
  have b2 := Bits.mask n h0 h1
  have b3 := Bits.clear n h0 h1
  rcases hc with ⟨rfl, hc⟩ | ⟨rfl, hc⟩ | ⟨rfl, hc0, hc1⟩
  · have b4 := Bits.join (n + m - 1000000000) (by omega) (by omega)
    have b5 := Bits.mono (n + m - 1000000000) (by omega) (by omega)
    go_enter Try.func37, Try.ntmps37
    go_wp2_with fail
    refine (nsec_any _ 0 n _ ?_ h0 h1).mono ?_
    · simp
    rintro e w' ⟨rfl, rfl⟩
    go_wp2_with fail
    refine (addSec_any _ 0 s (n + m - 1000000000) (q + 1) _ ?_ ?_ ?_ (by omega) (by omega) (by omega) (by omega) (by omega) (by omega)).mono ?_
    · simp
    · simp
    · simp
    rintro e w' ⟨rfl, rfl⟩
    go_wp2
    exact bodyPost_ret (v := .agg #[.int .u64 (n + m - 1000000000), .int .i64 (s + (q + 1)), .pointer none]) (by simp [results, Try.results37, go_sem]) rfl ⟨ret_tm (by omega) (by omega), two_new _ _ _⟩
  · have b4 := Bits.join (n + m + 1000000000) (by omega) (by omega)
    have b5 := Bits.mono (n + m + 1000000000) (by omega) (by omega)
    have hc' : ¬ 1000000000 ≤ n + m := by omega
    go_enter Try.func37, Try.ntmps37
    go_wp2_with fail
    refine (nsec_any _ 0 n _ ?_ h0 h1).mono ?_
    · simp
    rintro e w' ⟨rfl, rfl⟩
    go_wp2_with fail
    refine (addSec_any _ 0 s (n + m + 1000000000) (q - 1) _ ?_ ?_ ?_ (by omega) (by omega) (by omega) (by omega) (by omega) (by omega)).mono ?_
    · simp
    · simp
    · simp
    rintro e w' ⟨rfl, rfl⟩
    go_wp2
    exact bodyPost_ret (v := .agg #[.int .u64 (n + m + 1000000000), .int .i64 (s + (q - 1)), .pointer none]) (by simp [results, Try.results37, go_sem]) rfl ⟨ret_tm (by omega) (by omega), two_new _ _ _⟩
  · have b4 := Bits.join (n + m) (by omega) (by omega)
    have b5 := Bits.mono (n + m) (by omega) (by omega)
    go_enter Try.func37, Try.ntmps37
    go_wp2_with fail
    refine (nsec_any _ 0 n _ ?_ h0 h1).mono ?_
    · simp
    rintro e w' ⟨rfl, rfl⟩
    go_wp2_with fail
    refine (addSec_any _ 0 s (n + m) (q) _ ?_ ?_ ?_ (by omega) (by omega) (by omega) (by omega) (by omega) (by omega)).mono ?_
    · simp
    · simp
    · simp
    rintro e w' ⟨rfl, rfl⟩
    go_wp2
    exact bodyPost_ret (v := .agg #[.int .u64 (n + m), .int .i64 (s + (q)), .pointer none]) (by simp [results, Try.results37, go_sem]) rfl ⟨ret_tm (by omega) (by omega), two_new _ _ _⟩

theorem add_any (z d s n s' n' : Int) (w : World) (hz : Plain.Far z) (hd : Plain.I64 d) (h : Plain.At z s n) (h' : Plain.At (z + d) s' n') :
    Calls Try.prog 37 #[.agg #[.int .u64 n, .int .i64 s, .pointer none], .int .i64 d] w fun e w' => e = .returned (.agg #[.int .u64 n', .int .i64 s', .pointer none]) ∧ Below w.heap.size w w' := by
  obtain ⟨g1, g2, g3⟩ := Plain.by_second d
  have hs := Plain.far_sec h hz
  unfold Plain.At at h h'
  unfold Plain.I64 at hd
  obtain ⟨c, hc⟩ : ∃ c : Int, (c = 1 ∧ 1000000000 ≤ n + d.tmod 1000000000) ∨ (c = -1 ∧ n + d.tmod 1000000000 < 0) ∨ (c = 0 ∧ 0 ≤ n + d.tmod 1000000000 ∧ n + d.tmod 1000000000 < 1000000000) := by
    by_cases h1 : 1000000000 ≤ n + d.tmod 1000000000
    · exact ⟨1, .inl ⟨rfl, h1⟩⟩
    · by_cases h2 : n + d.tmod 1000000000 < 0
      · exact ⟨-1, .inr (.inl ⟨rfl, h2⟩)⟩
      · exact ⟨0, .inr (.inr ⟨rfl, by omega, by omega⟩)⟩
  refine (add_core s n d _ _ c w h.2.1 h.2.2 (by omega) (by omega) rfl rfl (by omega) (by omega) g2 g3 hc).mono ?_
  rintro e w' ⟨rfl, hb⟩
  exact ⟨ret_tm (by omega) (by omega), hb⟩

set_option maxHeartbeats 1000000 in
theorem equal_any (z y s n s2 n2 : Int) (r : Bool) (w : World) (h : Plain.At z s n) (h2 : Plain.At y s2 n2) (hr : r = decide (z = y)) :
    Calls Try.prog 29 #[.agg #[.int .u64 n, .int .i64 s, .pointer none], .agg #[.int .u64 n2, .int .i64 s2, .pointer none]] w fun e w' => e = .returned (.bool r) ∧ Below w.heap.size w w' := by
  obtain ⟨e1, a0, a1⟩ := h
  obtain ⟨e2, c0, c1⟩ := h2
  have b1 := Bits.both n n2 a0 a1 c0 c1
  have b2 := Bits.mono n a0 a1
  have b3 := Bits.mono n2 c0 c1
  have b4 := Bits.mask n a0 a1
  have b5 := Bits.mask n2 c0 c1
  by_cases hs : s = s2
  · subst hs
    by_cases hn : n = n2
    · subst hn
      obtain rfl : r = true := by rw [hr]; simp; omega
      clear e1 e2 hr
      go_enter Try.func29, Try.ntmps29
      go_wp2
      go_ret
      exact ⟨rfl, two_new _ _ _⟩
    · have t : (n == n2) = false := by simpa using hn
      by_cases hl : n < n2
      · obtain rfl : r = false := by rw [hr]; simp; omega
        have d1 : decide (n < n2) = true := by simp; omega
        have d2 : decide (n2 < n) = false := by simp; omega
        clear e1 e2 hr hn
        go_enter Try.func29, Try.ntmps29
        go_wp2
        go_ret
        exact ⟨rfl, two_new _ _ _⟩
      · have hl' : n2 < n := by omega
        obtain rfl : r = false := by rw [hr]; simp; omega
        have d1 : decide (n < n2) = false := by simp; omega
        have d2 : decide (n2 < n) = true := by simp; omega
        clear e1 e2 hr hn
        go_enter Try.func29, Try.ntmps29
        go_wp2
        go_ret
        exact ⟨rfl, two_new _ _ _⟩
  · have t : (s == s2) = false := by simpa using hs
    by_cases hl : s < s2
    · obtain rfl : r = false := by rw [hr]; simp; omega
      have d1 : decide (s < s2) = true := by simp; omega
      have d2 : decide (s2 < s) = false := by simp; omega
      clear e1 e2 hr hs
      go_enter Try.func29, Try.ntmps29
      go_wp2
      go_ret
      exact ⟨rfl, two_new _ _ _⟩
    · have hl' : s2 < s := by omega
      obtain rfl : r = false := by rw [hr]; simp; omega
      have d1 : decide (s < s2) = false := by simp; omega
      have d2 : decide (s2 < s) = true := by simp; omega
      clear e1 e2 hr hs
      go_enter Try.func29, Try.ntmps29
      go_wp2
      go_ret
      exact ⟨rfl, two_new _ _ _⟩

set_option maxHeartbeats 1000000 in
theorem before_any (z y s n s2 n2 : Int) (r : Bool) (w : World) (h : Plain.At z s n) (h2 : Plain.At y s2 n2) (hr : r = decide (z < y)) :
    Calls Try.prog 35 #[.agg #[.int .u64 n, .int .i64 s, .pointer none], .agg #[.int .u64 n2, .int .i64 s2, .pointer none]] w fun e w' => e = .returned (.bool r) ∧ Below w.heap.size w w' := by
  obtain ⟨e1, a0, a1⟩ := h
  obtain ⟨e2, c0, c1⟩ := h2
  have b1 := Bits.both n n2 a0 a1 c0 c1
  have b2 := Bits.mono n a0 a1
  have b3 := Bits.mono n2 c0 c1
  have b4 := Bits.mask n a0 a1
  have b5 := Bits.mask n2 c0 c1
  by_cases hs : s = s2
  · subst hs
    by_cases hn : n = n2
    · subst hn
      obtain rfl : r = false := by rw [hr]; simp; omega
      clear e1 e2 hr
      go_enter Try.func35, Try.ntmps35
      go_wp2
      go_ret
      exact ⟨rfl, two_new _ _ _⟩
    · have t : (n == n2) = false := by simpa using hn
      by_cases hl : n < n2
      · obtain rfl : r = true := by rw [hr]; simp; omega
        have d1 : decide (n < n2) = true := by simp; omega
        have d2 : decide (n2 < n) = false := by simp; omega
        clear e1 e2 hr hn
        go_enter Try.func35, Try.ntmps35
        go_wp2
        go_ret
        exact ⟨rfl, two_new _ _ _⟩
      · have hl' : n2 < n := by omega
        obtain rfl : r = false := by rw [hr]; simp; omega
        have d1 : decide (n < n2) = false := by simp; omega
        have d2 : decide (n2 < n) = true := by simp; omega
        clear e1 e2 hr hn
        go_enter Try.func35, Try.ntmps35
        go_wp2
        go_ret
        exact ⟨rfl, two_new _ _ _⟩
  · have t : (s == s2) = false := by simpa using hs
    by_cases hl : s < s2
    · obtain rfl : r = true := by rw [hr]; simp; omega
      have d1 : decide (s < s2) = true := by simp; omega
      have d2 : decide (s2 < s) = false := by simp; omega
      clear e1 e2 hr hs
      go_enter Try.func35, Try.ntmps35
      go_wp2
      go_ret
      exact ⟨rfl, two_new _ _ _⟩
    · have hl' : s2 < s := by omega
      obtain rfl : r = false := by rw [hr]; simp; omega
      have d1 : decide (s < s2) = false := by simp; omega
      have d2 : decide (s2 < s) = true := by simp; omega
      clear e1 e2 hr hs
      go_enter Try.func35, Try.ntmps35
      go_wp2
      go_ret
      exact ⟨rfl, two_new _ _ _⟩

set_option maxHeartbeats 1000000 in
theorem after_any (z y s n s2 n2 : Int) (r : Bool) (w : World) (h : Plain.At z s n) (h2 : Plain.At y s2 n2) (hr : r = decide (y < z)) :
    Calls Try.prog 36 #[.agg #[.int .u64 n, .int .i64 s, .pointer none], .agg #[.int .u64 n2, .int .i64 s2, .pointer none]] w fun e w' => e = .returned (.bool r) ∧ Below w.heap.size w w' := by
  obtain ⟨e1, a0, a1⟩ := h
  obtain ⟨e2, c0, c1⟩ := h2
  have b1 := Bits.both n n2 a0 a1 c0 c1
  have b2 := Bits.mono n a0 a1
  have b3 := Bits.mono n2 c0 c1
  have b4 := Bits.mask n a0 a1
  have b5 := Bits.mask n2 c0 c1
  by_cases hs : s = s2
  · subst hs
    by_cases hn : n = n2
    · subst hn
      obtain rfl : r = false := by rw [hr]; simp; omega
      clear e1 e2 hr
      go_enter Try.func36, Try.ntmps36
      go_wp2
      go_ret
      exact ⟨rfl, two_new _ _ _⟩
    · have t : (n == n2) = false := by simpa using hn
      by_cases hl : n < n2
      · obtain rfl : r = false := by rw [hr]; simp; omega
        have d1 : decide (n < n2) = true := by simp; omega
        have d2 : decide (n2 < n) = false := by simp; omega
        clear e1 e2 hr hn
        go_enter Try.func36, Try.ntmps36
        go_wp2
        go_ret
        exact ⟨rfl, two_new _ _ _⟩
      · have hl' : n2 < n := by omega
        obtain rfl : r = true := by rw [hr]; simp; omega
        have d1 : decide (n < n2) = false := by simp; omega
        have d2 : decide (n2 < n) = true := by simp; omega
        clear e1 e2 hr hn
        go_enter Try.func36, Try.ntmps36
        go_wp2
        go_ret
        exact ⟨rfl, two_new _ _ _⟩
  · have t : (s == s2) = false := by simpa using hs
    by_cases hl : s < s2
    · obtain rfl : r = false := by rw [hr]; simp; omega
      have d1 : decide (s < s2) = true := by simp; omega
      have d2 : decide (s2 < s) = false := by simp; omega
      clear e1 e2 hr hs
      go_enter Try.func36, Try.ntmps36
      go_wp2
      go_ret
      exact ⟨rfl, two_new _ _ _⟩
    · have hl' : s2 < s := by omega
      obtain rfl : r = true := by rw [hr]; simp; omega
      have d1 : decide (s < s2) = false := by simp; omega
      have d2 : decide (s2 < s) = true := by simp; omega
      clear e1 e2 hr hs
      go_enter Try.func36, Try.ntmps36
      go_wp2
      go_ret
      exact ⟨rfl, two_new _ _ _⟩

set_option maxHeartbeats 1000000 in
theorem compare_any (z y s n s2 n2 : Int) (r : Int) (w : World) (h : Plain.At z s n) (h2 : Plain.At y s2 n2) (hr : r = Plain.sg z y) :
    Calls Try.prog 32 #[.agg #[.int .u64 n, .int .i64 s, .pointer none], .agg #[.int .u64 n2, .int .i64 s2, .pointer none]] w fun e w' => e = .returned (.int .i64 r) ∧ Below w.heap.size w w' := by
  obtain ⟨e1, a0, a1⟩ := h
  obtain ⟨e2, c0, c1⟩ := h2
  have b1 := Bits.both n n2 a0 a1 c0 c1
  have b2 := Bits.mono n a0 a1
  have b3 := Bits.mono n2 c0 c1
  have b4 := Bits.mask n a0 a1
  have b5 := Bits.mask n2 c0 c1
  by_cases hs : s = s2
  · subst hs
    by_cases hn : n = n2
    · subst hn
      obtain rfl : r = 0 := by rw [hr]; unfold Plain.sg; first | (rw [if_pos (by omega)]; done) | (rw [if_neg (by omega), if_pos (by omega)]; done) | (rw [if_neg (by omega), if_neg (by omega)]; done)
      clear e1 e2 hr
      go_enter Try.func32, Try.ntmps32
      go_wp2
      go_ret
      exact ⟨rfl, two_new _ _ _⟩
    · have t : (n == n2) = false := by simpa using hn
      by_cases hl : n < n2
      · obtain rfl : r = -1 := by rw [hr]; unfold Plain.sg; first | (rw [if_pos (by omega)]; done) | (rw [if_neg (by omega), if_pos (by omega)]; done) | (rw [if_neg (by omega), if_neg (by omega)]; done)
        have d1 : decide (n < n2) = true := by simp; omega
        have d2 : decide (n2 < n) = false := by simp; omega
        clear e1 e2 hr hn
        go_enter Try.func32, Try.ntmps32
        go_wp2
        go_ret
        exact ⟨rfl, two_new _ _ _⟩
      · have hl' : n2 < n := by omega
        obtain rfl : r = 1 := by rw [hr]; unfold Plain.sg; first | (rw [if_pos (by omega)]; done) | (rw [if_neg (by omega), if_pos (by omega)]; done) | (rw [if_neg (by omega), if_neg (by omega)]; done)
        have d1 : decide (n < n2) = false := by simp; omega
        have d2 : decide (n2 < n) = true := by simp; omega
        clear e1 e2 hr hn
        go_enter Try.func32, Try.ntmps32
        go_wp2
        go_ret
        exact ⟨rfl, two_new _ _ _⟩
  · have t : (s == s2) = false := by simpa using hs
    by_cases hl : s < s2
    · obtain rfl : r = -1 := by rw [hr]; unfold Plain.sg; first | (rw [if_pos (by omega)]; done) | (rw [if_neg (by omega), if_pos (by omega)]; done) | (rw [if_neg (by omega), if_neg (by omega)]; done)
      have d1 : decide (s < s2) = true := by simp; omega
      have d2 : decide (s2 < s) = false := by simp; omega
      clear e1 e2 hr hs
      go_enter Try.func32, Try.ntmps32
      go_wp2
      go_ret
      exact ⟨rfl, two_new _ _ _⟩
    · have hl' : s2 < s := by omega
      obtain rfl : r = 1 := by rw [hr]; unfold Plain.sg; first | (rw [if_pos (by omega)]; done) | (rw [if_neg (by omega), if_pos (by omega)]; done) | (rw [if_neg (by omega), if_neg (by omega)]; done)
      have d1 : decide (s < s2) = false := by simp; omega
      have d2 : decide (s2 < s) = true := by simp; omega
      clear e1 e2 hr hs
      go_enter Try.func32, Try.ntmps32
      go_wp2
      go_ret
      exact ⟨rfl, two_new _ _ _⟩

end Go.Proofs.Ytgcbgoninaobjaa
