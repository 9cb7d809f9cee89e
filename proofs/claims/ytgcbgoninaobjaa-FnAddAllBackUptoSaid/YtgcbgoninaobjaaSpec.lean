/-
  Contracts of the reference's functions on moments: a moment is told by the whole number of nanoseconds since the zero time.
-/
import Derived.Test.YtgcbgoninaobjaaProg
import Derived.Test.YtgcbgoninaobjaaPlain
import Derived.WalkKit
import Derived.WalkSpells
import Derived.WalkLawsBesides
import Derived.Lib.Hide
import Derived.KernelRfl
import Derived.Deep.RegionHeld3
import Derived.Deep.DeepCutAuto
namespace Go.Proofs.Ytgcbgoninaobjaa.Sp
open Go.RowKit

theorem ret_mo {s n s' n' : Int} (h1 : s = s') (h2 : n = n') : Ending.returned (.agg #[.int .i64 s, .int .i64 n]) = .returned (.agg #[.int .i64 s', .int .i64 n']) := by rw [h1, h2]
theorem ret_int {k : IntKind} {a b : Int} (h : a = b) : Ending.returned (.int k a) = .returned (.int k b) := by rw [h]
theorem two_new (w : World) (o1 o2 : Obj) : Below w.heap.size w ((w.alloc o1).alloc o2) :=
  ((Below.refl _ _).alloc (Nat.le_refl _) _).alloc (by simp) _

theorem two_kept {W w1 : World} {B : Nat} (hb : Below B W w1) {g : Nat} (h : g < B) {x0 x1 : Value} (k : W.cell? ⟨g, 0, none⟩ = some x0 ∧ W.cell? ⟨g, 1, none⟩ = some x1) :
    w1.cell? ⟨g, 0, none⟩ = some x0 ∧ w1.cell? ⟨g, 1, none⟩ = some x1 :=
  ⟨(hb.cell (p := ⟨g, 0, none⟩) h).trans k.1, (hb.cell (p := ⟨g, 1, none⟩) h).trans k.2⟩

/-- The result's slot, laid ahead of calls that change nothing that was there. -/
theorem slot2 {w w2 : World} {x0 x1 : Value} {t : TypeId} (hb : Below (w.heap.size + 1) (w.alloc (.cells #[x0, x1] t)) w2) :
    w2.cell? ⟨w.heap.size, 0, none⟩ = some x0 ∧ w2.cell? ⟨w.heap.size, 1, none⟩ = some x1 ∧ w2.frozen? ⟨w.heap.size, 0, none⟩ = false ∧ w2.frozen? ⟨w.heap.size, 1, none⟩ = false ∧ w.heap.size < w2.heap.size ∧ Below w.heap.size w w2 := by
  refine ⟨?_, ?_, ?_, ?_, ?_, ?_⟩
  · exact (hb.cell (p := ⟨w.heap.size, 0, none⟩) (by simp)).trans (by simp)
  · exact (hb.cell (p := ⟨w.heap.size, 1, none⟩) (by simp)).trans (by simp)
  · exact (hb.frozen (p := ⟨w.heap.size, 0, none⟩) (by simp)).trans (by simp)
  · exact (hb.frozen (p := ⟨w.heap.size, 1, none⟩) (by simp)).trans (by simp)
  · have := hb.size; simp at this; omega
  · exact ((Below.refl _ w).alloc (Nat.le_refl _) _).trans (hb.mono (by omega))

set_option maxHeartbeats 1000000 in
theorem plus_core (s n d q m s' n' : Int) (w : World) (h0 : 0 ≤ n) (h1 : n < 1000000000) (hs0 : -4611686018427387904 ≤ s) (hs1 : s ≤ 4611686018427387904)
    (hq : d.tdiv 1000000000 = q) (hm : d.tmod 1000000000 = m) (hq0 : -9223372037 ≤ q) (hq1 : q ≤ 9223372037) (hm0 : -1000000000 < m) (hm1 : m < 1000000000)
    (he : Hid (s' * 1000000000 + n' = (s + q) * 1000000000 + (n + m) ∧ 0 ≤ n' ∧ n' < 1000000000)) :
    Calls Try.prog 38 #[.agg #[.int .i64 s, .int .i64 n], .int .i64 d] w fun e w' => e = .returned (.agg #[.int .i64 s', .int .i64 n']) ∧ Below w.heap.size w w' := by
  by_cases c : m < 0
  · by_cases c2 : 1000000000 ≤ n + (m + 1000000000)
    · go_enter Try.func38, Try.ntmps38
      go_wp2
      exact bodyPost_ret (v := .agg #[.int .i64 (s + (q - 1) + 1), .int .i64 (n + (m + 1000000000) - 1000000000)]) (by simp [results, Try.results38, go_sem]) rfl ⟨ret_mo (by have := he.out; omega) (by have := he.out; omega), two_new _ _ _⟩
    · go_enter Try.func38, Try.ntmps38
      go_wp2
      exact bodyPost_ret (v := .agg #[.int .i64 (s + (q - 1)), .int .i64 (n + (m + 1000000000))]) (by simp [results, Try.results38, go_sem]) rfl ⟨ret_mo (by have := he.out; omega) (by have := he.out; omega), two_new _ _ _⟩
  · by_cases c2 : 1000000000 ≤ n + m
    · go_enter Try.func38, Try.ntmps38
      go_wp2
      exact bodyPost_ret (v := .agg #[.int .i64 (s + q + 1), .int .i64 (n + m - 1000000000)]) (by simp [results, Try.results38, go_sem]) rfl ⟨ret_mo (by have := he.out; omega) (by have := he.out; omega), two_new _ _ _⟩
    · go_enter Try.func38, Try.ntmps38
      go_wp2
      exact bodyPost_ret (v := .agg #[.int .i64 (s + q), .int .i64 (n + m)]) (by simp [results, Try.results38, go_sem]) rfl ⟨ret_mo (by have := he.out; omega) (by have := he.out; omega), two_new _ _ _⟩

theorem plus_any (z d s n s' n' : Int) (w : World) (hz : Plain.Far z) (hd : Plain.I64 d) (h : Plain.At z s n) (h' : Plain.At (z + d) s' n') :
    Calls Try.prog 38 #[.agg #[.int .i64 s, .int .i64 n], .int .i64 d] w fun e w' => e = .returned (.agg #[.int .i64 s', .int .i64 n']) ∧ Below w.heap.size w w' := by
  obtain ⟨g1, g2, g3⟩ := Plain.by_second d
  have hs := Plain.far_sec h hz
  unfold Plain.At at h h'
  unfold Plain.I64 at hd
  exact plus_core s n d _ _ s' n' w h.2.1 h.2.2 (by omega) (by omega) rfl rfl (by omega) (by omega) g2 g3 (Lib.hid ⟨by omega, by omega, by omega⟩)

set_option maxHeartbeats 2000000 in
theorem minus_core (s n s2 n2 r : Int) (w : World) (a0 : 0 ≤ n) (a1 : n < 1000000000) (c0 : 0 ≤ n2) (c1 : n2 < 1000000000)
    (g0 : -4000000000000000001 ≤ s) (g1 : s ≤ 4000000000000000000) (g2 : -4000000000000000001 ≤ s2) (g3 : s2 ≤ 4000000000000000000)
    (hr : Hid (r = Plain.cl ((s - s2) * 1000000000 + (n - n2)))) :
    Calls Try.prog 44 #[.agg #[.int .i64 s, .int .i64 n], .agg #[.int .i64 s2, .int .i64 n2]] w fun e w' => e = .returned (.int .i64 r) ∧ Below w.heap.size w w' := by
  by_cases c : n - n2 < 0
  all_goals
    go_enter Try.func44, Try.ntmps44
    go_wp2
    all_goals go_ret
    all_goals refine ⟨ret_int ?_, two_new _ _ _⟩
    all_goals (have hh := hr.out; unfold Plain.cl at hh; (try unfold wrap64); omega)

theorem minus_any (z y s n s2 n2 r : Int) (w : World) (h : Plain.At z s n) (h2 : Plain.At y s2 n2) (fz : Plain.Far z) (fy : Plain.Far y) (hr : r = Plain.cl (z - y)) :
    Calls Try.prog 44 #[.agg #[.int .i64 s, .int .i64 n], .agg #[.int .i64 s2, .int .i64 n2]] w fun e w' => e = .returned (.int .i64 r) ∧ Below w.heap.size w w' := by
  have g := Plain.far_sec h fz
  have g' := Plain.far_sec h2 fy
  have e : (s - s2) * 1000000000 + (n - n2) = z - y := by unfold Plain.At at h h2; omega
  exact minus_core s n s2 n2 r w h.2.1 h.2.2 h2.2.1 h2.2.2 g.1 g.2 g'.1 g'.2 (Lib.hid (by rw [e]; exact hr))

set_option maxHeartbeats 1000000 in
theorem order_any (z y s n s2 n2 : Int) (r : Int) (w : World) (h : Plain.At z s n) (h2 : Plain.At y s2 n2) (hr : r = Plain.sg z y) :
    Calls Try.prog 30 #[.agg #[.int .i64 s, .int .i64 n], .agg #[.int .i64 s2, .int .i64 n2]] w fun e w' => e = .returned (.int .i64 r) ∧ Below w.heap.size w w' := by
  obtain ⟨e1, a0, a1⟩ := h
  obtain ⟨e2, c0, c1⟩ := h2
  by_cases hs : s = s2
  · subst hs
    by_cases hn : n = n2
    · subst hn
      obtain rfl : r = 0 := by rw [hr]; unfold Plain.sg; first | (rw [if_pos (by omega)]; done) | (rw [if_neg (by omega), if_pos (by omega)]; done) | (rw [if_neg (by omega), if_neg (by omega)]; done)
      clear e1 e2 hr
      go_enter Try.func30, Try.ntmps30
      go_wp2
      go_ret
      exact ⟨rfl, two_new _ _ _⟩
    · have t : (n == n2) = false := by simpa using hn
      by_cases hl : n < n2
      · obtain rfl : r = -1 := by rw [hr]; unfold Plain.sg; first | (rw [if_pos (by omega)]; done) | (rw [if_neg (by omega), if_pos (by omega)]; done) | (rw [if_neg (by omega), if_neg (by omega)]; done)
        clear e1 e2 hr hn
        go_enter Try.func30, Try.ntmps30
        go_wp2
        go_ret
        exact ⟨rfl, two_new _ _ _⟩
      · have hl' : n2 < n := by omega
        obtain rfl : r = 1 := by rw [hr]; unfold Plain.sg; first | (rw [if_pos (by omega)]; done) | (rw [if_neg (by omega), if_pos (by omega)]; done) | (rw [if_neg (by omega), if_neg (by omega)]; done)
        clear e1 e2 hr hn
        go_enter Try.func30, Try.ntmps30
        go_wp2
        go_ret
        exact ⟨rfl, two_new _ _ _⟩
  · have t : (s == s2) = false := by simpa using hs
    by_cases hl : s < s2
    · obtain rfl : r = -1 := by rw [hr]; unfold Plain.sg; first | (rw [if_pos (by omega)]; done) | (rw [if_neg (by omega), if_pos (by omega)]; done) | (rw [if_neg (by omega), if_neg (by omega)]; done)
      clear e1 e2 hr hs
      go_enter Try.func30, Try.ntmps30
      go_wp2
      go_ret
      exact ⟨rfl, two_new _ _ _⟩
    · have hl' : s2 < s := by omega
      obtain rfl : r = 1 := by rw [hr]; unfold Plain.sg; first | (rw [if_pos (by omega)]; done) | (rw [if_neg (by omega), if_pos (by omega)]; done) | (rw [if_neg (by omega), if_neg (by omega)]; done)
      clear e1 e2 hr hs
      go_enter Try.func30, Try.ntmps30
      go_wp2
      go_ret
      exact ⟨rfl, two_new _ _ _⟩


set_option maxHeartbeats 1000000 in
theorem reached_any (a b s n : Int) (w : World) (ha : Plain.I64 a) (hb : Plain.I64 b) (h : Plain.At (a + b) s n) :
    Calls Try.prog 31 #[.int .i64 a, .int .i64 b] w fun e w' => e = .returned (.agg #[.int .i64 s, .int .i64 n]) ∧ Below w.heap.size w w' := by
  obtain ⟨s1, n1, h1⟩ := Plain.at_ex (0 + a)
  have h' : Plain.At (0 + a + b) s n := by rw [Int.zero_add]; exact h
  have f1 : Plain.Far (0 + a) := by rw [Int.zero_add]; exact Plain.far_one ha
  go_enter Try.func31, Try.ntmps31
  go_wp2_with fail
  refine (plus_any 0 a 0 0 s1 n1 _ Plain.far_zero ha Plain.at_zero h1).mono ?_
  rintro e w1 ⟨rfl, hb1⟩
  go_wp2_with fail
  refine (plus_any (0 + a) b s1 n1 s n _ f1 hb h1 h').mono ?_
  rintro e w2 ⟨rfl, hb2⟩
  obtain ⟨q0, q1, z0, z1, hlt, hB⟩ := slot2 ((show Below (w.heap.size + 1) _ w1 from by simpa using hb1).trans (hb2.mono (by have := hb1.size; simpa using this)))
  clear hb1 hb2
  go_wp2
  exact bodyPost_ret (v := .agg #[.int .i64 s, .int .i64 n]) (by simp [results, Try.results31, go_sem, q0, q1]) rfl ⟨rfl, (hB.setCell (Nat.le_refl _) _).setCell (Nat.le_refl _) _⟩

set_option maxHeartbeats 1000000 in
theorem halves_any (z s n f r : Int) (w : World) (h : Plain.At z s n) (fz : Plain.Far z) (hf : f = Plain.cl z) (hr : r = Plain.p2 z) :
    Calls Try.prog 34 #[.agg #[.int .i64 s, .int .i64 n]] w fun e w' => e = .returned (.tuple #[.int .i64 f, .int .i64 r]) ∧ Below w.heap.size w w' := by
  obtain ⟨s1, n1, h1⟩ := Plain.at_ex (0 + f)
  have if1 : Plain.I64 f := by rw [hf]; exact Plain.cl_i64 z
  have f1 : Plain.Far (0 + f) := by rw [Int.zero_add]; exact Plain.far_one if1
  have hf' : f = Plain.cl (z - 0) := by rw [hf, Int.sub_zero]
  have hr' : r = Plain.cl (z - (0 + f)) := by rw [hr, hf, Int.zero_add]; rfl
  have F := Lib.hid hf'
  have R := Lib.hid hr'
  clear hf hr hf' hr'
  go_enter Try.func34, Try.ntmps34
  go_wp2_with (go_at_call 44; refine (minus_any z 0 s n 0 0 f _ h Plain.at_zero fz Plain.far_zero F.out).mono ?_; rintro e w1 ⟨rfl, hb1⟩)
  obtain ⟨q0, q1, _, _, hlt, hB⟩ := slot2 (show Below (w.heap.size + 1) _ w1 from by simpa using hb1)
  go_region_held3 (fun w' => w'.cell? ⟨w.heap.size, 0, none⟩ = some (.int .i64 s) ∧ w'.cell? ⟨w.heap.size, 1, none⟩ = some (.int .i64 n))
    (first | (simp [q0, q1]; done) | exact two_kept hb3 (by omega) (two_kept hb2 hlt ⟨q0, q1⟩) | exact two_kept hb2 hlt ⟨q0, q1⟩)
    (first | (go_at_call 38; refine (plus_any 0 f 0 0 s1 n1 _ Plain.far_zero if1 Plain.at_zero h1).mono ?_; rintro e w2 ⟨rfl, hb2⟩; have k2 : w1.heap.size ≤ w2.heap.size := hb2.size) | (go_at_call 44; refine (minus_any z (0 + f) s n s1 n1 r _ h h1 fz f1 R.out).mono ?_; rintro e w3 ⟨rfl, hb3⟩))
  go_wp2
  go_ret2
  exact ⟨rfl, (hB.drew.trans (hb2.mono (by show w.heap.size ≤ w1.heap.size; omega))).trans (hb3.mono (by omega))⟩

end Go.Proofs.Ytgcbgoninaobjaa.Sp
