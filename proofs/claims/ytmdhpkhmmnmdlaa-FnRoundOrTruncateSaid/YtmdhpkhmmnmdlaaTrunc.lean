/-
  The contracts of Truncate and Round, at times without a clock reading; TruncateOf and RoundOf of the thin package.
-/
import Derived.Test.YtmdhpkhmmnmdlaaDivA
namespace Go.Proofs.Ytmdhpkhmmnmdlaa
open Go.RowKit
set_option linter.unusedVariables false

/-- The boxed argument and the result's slot, laid ahead of calls that change nothing that was there. -/
theorem box3 {w w2 : World} {x0 x1 x2 y0 y1 y2 : Value} {t t' : TypeId} (hb : Below (w.heap.size + 1 + 1) ((w.alloc (.cells #[x0, x1, x2] t)).alloc (.cells #[y0, y1, y2] t')) w2) :
    (w2.cell? ⟨w.heap.size, 0, none⟩ = some x0 ∧ w2.cell? ⟨w.heap.size, 1, none⟩ = some x1 ∧ w2.cell? ⟨w.heap.size, 2, none⟩ = some x2) ∧
    (w2.cell? ⟨w.heap.size + 1, 0, none⟩ = some y0 ∧ w2.cell? ⟨w.heap.size + 1, 1, none⟩ = some y1 ∧ w2.cell? ⟨w.heap.size + 1, 2, none⟩ = some y2) ∧
    (w2.frozen? ⟨w.heap.size + 1, 0, none⟩ = false ∧ w2.frozen? ⟨w.heap.size + 1, 1, none⟩ = false ∧ w2.frozen? ⟨w.heap.size + 1, 2, none⟩ = false) ∧ w.heap.size + 1 < w2.heap.size ∧ Below w.heap.size w w2 := by
  refine ⟨⟨?_, ?_, ?_⟩, ⟨?_, ?_, ?_⟩, ⟨?_, ?_, ?_⟩, ?_, ?_⟩
  · exact (hb.cell (p := ⟨w.heap.size, 0, none⟩) (by show w.heap.size < w.heap.size + 1 + 1; omega)).trans (by simp)
  · exact (hb.cell (p := ⟨w.heap.size, 1, none⟩) (by show w.heap.size < w.heap.size + 1 + 1; omega)).trans (by simp)
  · exact (hb.cell (p := ⟨w.heap.size, 2, none⟩) (by show w.heap.size < w.heap.size + 1 + 1; omega)).trans (by simp)
  · exact (hb.cell (p := ⟨w.heap.size + 1, 0, none⟩) (by show w.heap.size + 1 < w.heap.size + 1 + 1; omega)).trans (by simp)
  · exact (hb.cell (p := ⟨w.heap.size + 1, 1, none⟩) (by show w.heap.size + 1 < w.heap.size + 1 + 1; omega)).trans (by simp)
  · exact (hb.cell (p := ⟨w.heap.size + 1, 2, none⟩) (by show w.heap.size + 1 < w.heap.size + 1 + 1; omega)).trans (by simp)
  · exact (hb.frozen (p := ⟨w.heap.size + 1, 0, none⟩) (by show w.heap.size + 1 < w.heap.size + 1 + 1; omega)).trans (by simp)
  · exact (hb.frozen (p := ⟨w.heap.size + 1, 1, none⟩) (by show w.heap.size + 1 < w.heap.size + 1 + 1; omega)).trans (by simp)
  · exact (hb.frozen (p := ⟨w.heap.size + 1, 2, none⟩) (by show w.heap.size + 1 < w.heap.size + 1 + 1; omega)).trans (by simp)
  · have := hb.size; simp at this; omega
  · exact (two_new w _ _).trans (hb.mono (by omega))

theorem Plain.far_down {a b d : Int} (ha : Plain.I64 a) (hb : Plain.I64 b) (hd : Plain.I64 d) : Plain.Far (Plain.down (a + b) d) := by
  by_cases c : d ≤ 0
  · rw [Plain.down_le c]; exact Plain.far_two ha hb
  · have := Plain.down_bd (z := a + b) (d := d) (by omega)
    unfold Plain.I64 at *; unfold Plain.Far; omega
theorem Plain.far_near {a b d : Int} (ha : Plain.I64 a) (hb : Plain.I64 b) (hd : Plain.I64 d) : Plain.Far (Plain.near (a + b) d) := by
  by_cases c : d ≤ 0
  · rw [Plain.near_le c]; exact Plain.far_two ha hb
  · have := Plain.near_bd (z := a + b) (d := d) (by omega)
    unfold Plain.I64 at *; unfold Plain.Far; omega

set_option maxHeartbeats 1000000 in
theorem strip_any (b o : Nat) (n : Int) (w : World) (hc : w.cell? ⟨b, o, none⟩ = some (.int .u64 n)) (h0 : 0 ≤ n) (h1 : n < 1000000000) :
    Calls Try.prog 39 #[.pointer (some ⟨b, o, none⟩)] w fun e w' => e = .returned (.tuple #[]) ∧ w = w' := by
  have hm := Bits.mono n h0 h1
  go_enter Try.func39, Try.ntmps39
  go_wp2
  go_end0
  exact ⟨rfl, rfl⟩

set_option maxHeartbeats 1000000 in
theorem half_any (x y : Int) (b : Bool) (w : World) (x0 : 0 ≤ x) (x1 : x ≤ 9223372036854775807) (y0 : 0 ≤ y) (y1 : y ≤ 9223372036854775807) (hb : b = decide (x < y - x)) :
    Calls Try.prog 41 #[.int .i64 x, .int .i64 y] w fun e w' => e = .returned (.bool b) ∧ w = w' := by
  have e : decide (x + x < y) = b := by rw [hb, decide_eq_decide]; omega
  clear hb
  go_enter Try.func41, Try.ntmps41
  go_wp2
  go_ret
  exact ⟨rfl, rfl⟩

set_option maxHeartbeats 2000000 in
theorem truncate_any (z d s n s' n' : Int) (w : World) (fz : Plain.Far z) (hd : Plain.I64 d) (h : Plain.At z s n) (h' : Plain.At (Plain.down z d) s' n') :
    Calls Try.prog 26 #[.agg #[.int .u64 n, .int .i64 s, .pointer none], .int .i64 d] w fun e w' => e = .returned (.agg #[.int .u64 n', .int .i64 s', .pointer none]) ∧ Below w.heap.size w w' := by
  obtain ⟨dl, du⟩ : -9223372036854775808 ≤ d ∧ d ≤ 9223372036854775807 := ⟨hd.1, hd.2⟩
  by_cases c : d ≤ 0
  · have e := Plain.down_le (z := z) c
    rw [e] at h'
    obtain ⟨rfl, rfl⟩ := Plain.at_uniq h h'
    clear e
    go_enter Try.func26, Try.ntmps26
    go_wp2_with fail
    refine (strip_any _ 0 n _ ?_ h.2.1 h.2.2).mono ?_
    · simp
    rintro e w' ⟨rfl, rfl⟩
    go_wp2
    exact bodyPost_ret (v := .agg #[.int .u64 n, .int .i64 s, .pointer none]) (by simp [results, Try.results26, go_sem]) rfl ⟨rfl, two_new _ _ _⟩
  · have d0 : 0 < d := by omega
    obtain ⟨r, hr⟩ : ∃ r, r = z % d := ⟨_, rfl⟩
    have hm := Plain.mod_bd z d0
    rw [← hr] at hm
    obtain ⟨m0, m1⟩ := hm
    have R := Lib.hid hr
    have ir : Plain.I64 (-r) := by unfold Plain.I64; omega
    have h'' : Plain.At (z + -r) s' n' := by rw [Plain.down_pos d0, ← hr] at h'; exact h'
    clear hr c h'
    go_enter Try.func26, Try.ntmps26
    go_wp2_with fail
    refine (strip_any _ 0 n _ ?_ h.2.1 h.2.2).mono ?_
    · simp
    rintro e w' ⟨rfl, rfl⟩
    go_wp2_with fail
    refine (div_any z d s n r _ h fz hd d0 R.out).mono ?_
    rintro e w1 ⟨q, rfl, hb1⟩
    have kb1 : Below (w.heap.size + 1 + 1) ((w.alloc (.cells #[.int .u64 n, .int .i64 s, .pointer none] 36)).alloc (.cells #[.int .u64 0, .int .i64 0, .pointer none] 36)) w1 := by simpa using hb1
    obtain ⟨⟨q0, q1, q2⟩, _, _, hlt, _⟩ := box3 kb1
    clear hb1
    go_wp2_with fail
    refine (add_any z (-r) s n s' n' _ fz ir h h'').mono ?_
    rintro e w2 ⟨rfl, hb2⟩
    obtain ⟨_, ⟨p0, p1, p2⟩, ⟨f0, f1, f2⟩, hlt2, hB⟩ := box3 (kb1.trans (hb2.mono (by omega)))
    clear hb2 kb1 q0 q1 q2 hlt
    go_wp2
    exact bodyPost_ret (v := .agg #[.int .u64 n', .int .i64 s', .pointer none]) (by simp [results, Try.results26, go_sem, p0, p1, p2]) rfl ⟨rfl, ((hB.setCell (Nat.le_succ _) _).setCell (Nat.le_succ _) _).setCell (Nat.le_succ _) _⟩

set_option maxHeartbeats 2000000 in
theorem round_any (z d s n s' n' : Int) (w : World) (fz : Plain.Far z) (hd : Plain.I64 d) (h : Plain.At z s n) (h' : Plain.At (Plain.near z d) s' n') :
    Calls Try.prog 25 #[.agg #[.int .u64 n, .int .i64 s, .pointer none], .int .i64 d] w fun e w' => e = .returned (.agg #[.int .u64 n', .int .i64 s', .pointer none]) ∧ Below w.heap.size w w' := by
  obtain ⟨dl, du⟩ : -9223372036854775808 ≤ d ∧ d ≤ 9223372036854775807 := ⟨hd.1, hd.2⟩
  by_cases c : d ≤ 0
  · have e := Plain.near_le (z := z) c
    rw [e] at h'
    obtain ⟨rfl, rfl⟩ := Plain.at_uniq h h'
    clear e
    go_enter Try.func25, Try.ntmps25
    go_wp2_with fail
    refine (strip_any _ 0 n _ ?_ h.2.1 h.2.2).mono ?_
    · simp
    rintro e w' ⟨rfl, rfl⟩
    go_wp2
    exact bodyPost_ret (v := .agg #[.int .u64 n, .int .i64 s, .pointer none]) (by simp [results, Try.results25, go_sem]) rfl ⟨rfl, two_new _ _ _⟩
  · have d0 : 0 < d := by omega
    obtain ⟨r, hr⟩ : ∃ r, r = z % d := ⟨_, rfl⟩
    have hm := Plain.mod_bd z d0
    rw [← hr] at hm
    obtain ⟨m0, m1⟩ := hm
    have R := Lib.hid hr
    have ir : Plain.I64 (-r) := by unfold Plain.I64; omega
    have ir2 : Plain.I64 (d - r) := by unfold Plain.I64; omega
    by_cases hh : r < d - r
    · have B := Lib.hid (show true = decide (r < d - r) by simpa using hh)
      have h'' : Plain.At (z + -r) s' n' := by rw [Plain.near_lt d0 (by rw [← hr]; exact hh), ← hr] at h'; exact h'
      clear hr c h' hh
      go_enter Try.func25, Try.ntmps25
      go_wp2_with fail
      refine (strip_any _ 0 n _ ?_ h.2.1 h.2.2).mono ?_
      · simp
      rintro e w' ⟨rfl, rfl⟩
      go_wp2_with fail
      refine (div_any z d s n r _ h fz hd d0 R.out).mono ?_
      rintro e w1 ⟨q, rfl, hb1⟩
      have kb1 : Below (w.heap.size + 1 + 1) ((w.alloc (.cells #[.int .u64 n, .int .i64 s, .pointer none] 36)).alloc (.cells #[.int .u64 0, .int .i64 0, .pointer none] 36)) w1 := by simpa using hb1
      obtain ⟨⟨q0, q1, q2⟩, _, _, hlt, _⟩ := box3 kb1
      clear hb1
      go_wp2_with fail
      refine (half_any r d true _ m0 (by omega) (by omega) du B.out).mono ?_
      rintro e w' ⟨rfl, rfl⟩
      go_wp2_with fail
      refine (add_any z (-r) s n s' n' _ fz ir h h'').mono ?_
      rintro e w2 ⟨rfl, hb2⟩
      obtain ⟨_, ⟨p0, p1, p2⟩, ⟨f0, f1, f2⟩, hlt2, hB⟩ := box3 (kb1.trans (hb2.mono (by omega)))
      clear hb2 kb1 q0 q1 q2 hlt
      go_wp2
      exact bodyPost_ret (v := .agg #[.int .u64 n', .int .i64 s', .pointer none]) (by simp [results, Try.results25, go_sem, p0, p1, p2]) rfl ⟨rfl, ((hB.setCell (Nat.le_succ _) _).setCell (Nat.le_succ _) _).setCell (Nat.le_succ _) _⟩
    · have B := Lib.hid (show false = decide (r < d - r) by simpa using hh)
      have h'' : Plain.At (z + (d - r)) s' n' := by rw [Plain.near_ge d0 (by rw [← hr]; exact hh), ← hr] at h'; exact h'
      clear hr c h' hh
      go_enter Try.func25, Try.ntmps25
      go_wp2_with fail
      refine (strip_any _ 0 n _ ?_ h.2.1 h.2.2).mono ?_
      · simp
      rintro e w' ⟨rfl, rfl⟩
      go_wp2_with fail
      refine (div_any z d s n r _ h fz hd d0 R.out).mono ?_
      rintro e w1 ⟨q, rfl, hb1⟩
      have kb1 : Below (w.heap.size + 1 + 1) ((w.alloc (.cells #[.int .u64 n, .int .i64 s, .pointer none] 36)).alloc (.cells #[.int .u64 0, .int .i64 0, .pointer none] 36)) w1 := by simpa using hb1
      obtain ⟨⟨q0, q1, q2⟩, _, _, hlt, _⟩ := box3 kb1
      clear hb1
      go_wp2_with fail
      refine (half_any r d false _ m0 (by omega) (by omega) du B.out).mono ?_
      rintro e w' ⟨rfl, rfl⟩
      go_wp2_with fail
      refine (add_any z (d - r) s n s' n' _ fz ir2 h h'').mono ?_
      rintro e w2 ⟨rfl, hb2⟩
      obtain ⟨_, ⟨p0, p1, p2⟩, ⟨f0, f1, f2⟩, hlt2, hB⟩ := box3 (kb1.trans (hb2.mono (by omega)))
      clear hb2 kb1 q0 q1 q2 hlt
      go_wp2
      exact bodyPost_ret (v := .agg #[.int .u64 n', .int .i64 s', .pointer none]) (by simp [results, Try.results25, go_sem, p0, p1, p2]) rfl ⟨rfl, ((hB.setCell (Nat.le_succ _) _).setCell (Nat.le_succ _) _).setCell (Nat.le_succ _) _⟩

set_option maxHeartbeats 1000000 in
theorem truncateOf_any (a b d f r : Int) (w : World) (ha : Plain.I64 a) (hb : Plain.I64 b) (hd : Plain.I64 d) (hf : f = Plain.cl (Plain.down (a + b) d)) (hr : r = Plain.p2 (Plain.down (a + b) d)) :
    Calls Try.prog 12 #[.int .i64 a, .int .i64 b, .int .i64 d] w fun e w' => e = .returned (.tuple #[.int .i64 f, .int .i64 r]) ∧ Below w.heap.size w w' := by
  obtain ⟨s1, n1, h1⟩ := Plain.at_ex (a + b)
  obtain ⟨s2, n2, h2⟩ := Plain.at_ex (Plain.down (a + b) d)
  have fz := Plain.far_two ha hb
  have fy := Plain.far_down ha hb hd
  have F := Lib.hid hf
  have R := Lib.hid hr
  clear hf hr
  go_enter Try.func12, Try.ntmps12
  go_wp2_with fail
  refine (instant_any a b s1 n1 _ ha hb h1).mono ?_
  rintro e w1 ⟨rfl, hb1⟩
  go_wp2_with fail
  refine (truncate_any (a + b) d s1 n1 s2 n2 _ fz hd h1 h2).mono ?_
  rintro e w2 ⟨rfl, hb2⟩
  go_wp2_with fail
  refine (parts_any (Plain.down (a + b) d) s2 n2 f r _ h2 fy F.out R.out).mono ?_
  rintro e w3 ⟨rfl, hb3⟩
  have hB : Below w.heap.size w w3 := (hb1.trans (hb2.mono hb1.size)).trans (hb3.mono (Nat.le_trans hb1.size hb2.size))
  clear hb1 hb2 hb3
  go_wp2
  go_ret2
  exact ⟨rfl, hB⟩

set_option maxHeartbeats 1000000 in
theorem roundOf_any (a b d f r : Int) (w : World) (ha : Plain.I64 a) (hb : Plain.I64 b) (hd : Plain.I64 d) (hf : f = Plain.cl (Plain.near (a + b) d)) (hr : r = Plain.p2 (Plain.near (a + b) d)) :
    Calls Try.prog 11 #[.int .i64 a, .int .i64 b, .int .i64 d] w fun e w' => e = .returned (.tuple #[.int .i64 f, .int .i64 r]) ∧ Below w.heap.size w w' := by
  obtain ⟨s1, n1, h1⟩ := Plain.at_ex (a + b)
  obtain ⟨s2, n2, h2⟩ := Plain.at_ex (Plain.near (a + b) d)
  have fz := Plain.far_two ha hb
  have fy := Plain.far_near ha hb hd
  have F := Lib.hid hf
  have R := Lib.hid hr
  clear hf hr
  go_enter Try.func11, Try.ntmps11
  go_wp2_with fail
  refine (instant_any a b s1 n1 _ ha hb h1).mono ?_
  rintro e w1 ⟨rfl, hb1⟩
  go_wp2_with fail
  refine (round_any (a + b) d s1 n1 s2 n2 _ fz hd h1 h2).mono ?_
  rintro e w2 ⟨rfl, hb2⟩
  go_wp2_with fail
  refine (parts_any (Plain.near (a + b) d) s2 n2 f r _ h2 fy F.out R.out).mono ?_
  rintro e w3 ⟨rfl, hb3⟩
  have hB : Below w.heap.size w w3 := (hb1.trans (hb2.mono hb1.size)).trans (hb3.mono (Nat.le_trans hb1.size hb2.size))
  clear hb1 hb2 hb3
  go_wp2
  go_ret2
  exact ⟨rfl, hB⟩

end Go.Proofs.Ytmdhpkhmmnmdlaa
