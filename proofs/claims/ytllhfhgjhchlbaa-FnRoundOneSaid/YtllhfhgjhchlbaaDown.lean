/-
  The contracts of the reference's down and near, TruncateOf and RoundOf; of the statements' early and late.
-/
import Derived.Test.YtllhfhgjhchlbaaRest
import Derived.Test.YtllhfhgjhchlbaaTrunc
namespace Go.Proofs.Ytllhfhgjhchlbaa.Sp
open Go.RowKit
set_option linter.unusedVariables false

/-- The boxed argument and the result's slot, laid ahead of calls that change nothing that was there. -/
theorem box2 {w w2 : World} {x0 x1 y0 y1 : Value} {t t' : TypeId} (hb : Below (w.heap.size + 1 + 1) ((w.alloc (.cells #[x0, x1] t)).alloc (.cells #[y0, y1] t')) w2) :
    (w2.cell? ⟨w.heap.size, 0, none⟩ = some x0 ∧ w2.cell? ⟨w.heap.size, 1, none⟩ = some x1) ∧
    (w2.cell? ⟨w.heap.size + 1, 0, none⟩ = some y0 ∧ w2.cell? ⟨w.heap.size + 1, 1, none⟩ = some y1) ∧
    (w2.frozen? ⟨w.heap.size + 1, 0, none⟩ = false ∧ w2.frozen? ⟨w.heap.size + 1, 1, none⟩ = false) ∧ w.heap.size + 1 < w2.heap.size ∧ Below w.heap.size w w2 := by
  refine ⟨⟨?_, ?_⟩, ⟨?_, ?_⟩, ⟨?_, ?_⟩, ?_, ?_⟩
  · exact (hb.cell (p := ⟨w.heap.size, 0, none⟩) (by show w.heap.size < w.heap.size + 1 + 1; omega)).trans (by simp)
  · exact (hb.cell (p := ⟨w.heap.size, 1, none⟩) (by show w.heap.size < w.heap.size + 1 + 1; omega)).trans (by simp)
  · exact (hb.cell (p := ⟨w.heap.size + 1, 0, none⟩) (by show w.heap.size + 1 < w.heap.size + 1 + 1; omega)).trans (by simp)
  · exact (hb.cell (p := ⟨w.heap.size + 1, 1, none⟩) (by show w.heap.size + 1 < w.heap.size + 1 + 1; omega)).trans (by simp)
  · exact (hb.frozen (p := ⟨w.heap.size + 1, 0, none⟩) (by show w.heap.size + 1 < w.heap.size + 1 + 1; omega)).trans (by simp)
  · exact (hb.frozen (p := ⟨w.heap.size + 1, 1, none⟩) (by show w.heap.size + 1 < w.heap.size + 1 + 1; omega)).trans (by simp)
  · have := hb.size; simp at this; omega
  · exact (two_new w _ _).trans (hb.mono (by omega))

theorem box2a {w w1 : World} {x0 x1 y0 y1 : Value} {t t' : TypeId} (hb : Below (((w.alloc (.cells #[x0, x1] t)).alloc (.cells #[y0, y1] t')).drew).heap.size (((w.alloc (.cells #[x0, x1] t)).alloc (.cells #[y0, y1] t')).drew) w1) :
    Below (w.heap.size + 1 + 1) ((w.alloc (.cells #[x0, x1] t)).alloc (.cells #[y0, y1] t')) w1 :=
  ((Below.refl _ ((w.alloc (.cells #[x0, x1] t)).alloc (.cells #[y0, y1] t'))).drew).trans (hb.mono (by simp))

theorem box2b {w w1 w2 : World} {x0 x1 y0 y1 : Value} {t t' : TypeId} (hb : Below (w.heap.size + 1 + 1) ((w.alloc (.cells #[x0, x1] t)).alloc (.cells #[y0, y1] t')) w1) (hb2 : Below w1.heap.size w1 w2) :
    Below (w.heap.size + 1 + 1) ((w.alloc (.cells #[x0, x1] t)).alloc (.cells #[y0, y1] t')) w2 :=
  hb.trans (hb2.mono (by have := hb.size; simp at this; omega))

theorem far_cells {W : World} {g : Nat} {v0 v1 x0 x1 : Value} (k0 : W.cell? ⟨g, 0, none⟩ = some x0) (k1 : W.cell? ⟨g, 1, none⟩ = some x1) :
    ((W.setCell ⟨g + 1, 0, none⟩ v0).setCell ⟨g + 1, 1, none⟩ v1).cell? ⟨g, 0, none⟩ = some x0 ∧ ((W.setCell ⟨g + 1, 0, none⟩ v0).setCell ⟨g + 1, 1, none⟩ v1).cell? ⟨g, 1, none⟩ = some x1 := by
  constructor
  · rw [World.cell?_setCell_other _ _ _ _ (by simp), World.cell?_setCell_other _ _ _ _ (by simp)]; exact k0
  · rw [World.cell?_setCell_other _ _ _ _ (by simp), World.cell?_setCell_other _ _ _ _ (by simp)]; exact k1

set_option maxHeartbeats 2000000 in
theorem down_any (z d s n s' n' : Int) (w : World) (fz : Plain.Far z) (hd : Plain.I64 d) (h : Plain.At z s n) (h' : Plain.At (Plain.down z d) s' n') :
    Calls Try.prog 28 #[.agg #[.int .i64 s, .int .i64 n], .int .i64 d] w fun e w' => e = .returned (.agg #[.int .i64 s', .int .i64 n']) ∧ Below w.heap.size w w' := by
  obtain ⟨dl, du⟩ : -9223372036854775808 ≤ d ∧ d ≤ 9223372036854775807 := ⟨hd.1, hd.2⟩
  by_cases c : d ≤ 0
  · have e := Plain.down_le (z := z) c
    rw [e] at h'
    obtain ⟨rfl, rfl⟩ := Plain.at_uniq h h'
    clear e
    go_enter Try.func28, Try.ntmps28
    go_wp2
    exact bodyPost_ret (v := .agg #[.int .i64 s, .int .i64 n]) (by simp [results, Try.results28, go_sem]) rfl ⟨rfl, two_new _ _ _⟩
  · have d0 : 0 < d := by omega
    obtain ⟨r, hr⟩ : ∃ r, r = z % d := ⟨_, rfl⟩
    have hm := Plain.mod_bd z d0
    rw [← hr] at hm
    obtain ⟨m0, m1⟩ := hm
    have R := Lib.hid hr
    have ir : Plain.I64 (-r) := by unfold Plain.I64; omega
    have h'' : Plain.At (z + -r) s' n' := by rw [Plain.down_pos d0, ← hr] at h'; exact h'
    clear hr c h'
    have hw : IntKind.i64.wrap (-r) = -r := IntWalk.i64_in _ (by omega)
    have j0 : ((w.alloc (.cells #[.int .i64 s, .int .i64 n] 33)).alloc (.cells #[.int .i64 0, .int .i64 0] 33)).drew.cell? ⟨w.heap.size, 0, none⟩ = some (.int .i64 s) := by simp
    have j1 : ((w.alloc (.cells #[.int .i64 s, .int .i64 n] 33)).alloc (.cells #[.int .i64 0, .int .i64 0] 33)).drew.cell? ⟨w.heap.size, 1, none⟩ = some (.int .i64 n) := by simp
    go_enter Try.func28, Try.ntmps28
    go_wp2_with fail
    go_region_held3 (fun w' => w'.cell? ⟨w.heap.size, 0, none⟩ = some (.int .i64 s) ∧ w'.cell? ⟨w.heap.size, 1, none⟩ = some (.int .i64 n))
      (first | with_reducible exact ⟨j0, j1⟩ | with_reducible exact ⟨q0, q1⟩ | with_reducible exact ⟨k0, k1⟩ | with_reducible exact far_cells k0 k1)
      (first | (go_at_call 42; refine (rest_any z d s n r _ h fz hd d0 R.out).mono ?_; rintro e w1 ⟨rfl, hb1⟩; have kb1 := box2a hb1; obtain ⟨⟨q0, q1⟩, _, _, hlt, _⟩ := box2 kb1; clear hb1) | (go_at_call 41; refine (plus_any z (-r) s n s' n' _ fz ir h h'').mono ?_; rintro e w2 ⟨rfl, hb2⟩; obtain ⟨⟨k0, k1⟩, ⟨p0, p1⟩, ⟨f0, f1⟩, hlt2, hB⟩ := box2 (box2b kb1 hb2); clear hb2))
    clear kb1 q0 q1 hlt hw
    go_wp2
    exact bodyPost_ret (v := .agg #[.int .i64 s', .int .i64 n']) (by simp [results, Try.results28, go_sem, p0, p1]) rfl ⟨rfl, (hB.setCell (Nat.le_succ _) _).setCell (Nat.le_succ _) _⟩

set_option maxHeartbeats 2000000 in
theorem near_any (z d s n s' n' : Int) (w : World) (fz : Plain.Far z) (hd : Plain.I64 d) (h : Plain.At z s n) (h' : Plain.At (Plain.near z d) s' n') :
    Calls Try.prog 39 #[.agg #[.int .i64 s, .int .i64 n], .int .i64 d] w fun e w' => e = .returned (.agg #[.int .i64 s', .int .i64 n']) ∧ Below w.heap.size w w' := by
  obtain ⟨dl, du⟩ : -9223372036854775808 ≤ d ∧ d ≤ 9223372036854775807 := ⟨hd.1, hd.2⟩
  by_cases c : d ≤ 0
  · have e := Plain.near_le (z := z) c
    rw [e] at h'
    obtain ⟨rfl, rfl⟩ := Plain.at_uniq h h'
    clear e
    go_enter Try.func39, Try.ntmps39
    go_wp2
    exact bodyPost_ret (v := .agg #[.int .i64 s, .int .i64 n]) (by simp [results, Try.results39, go_sem]) rfl ⟨rfl, two_new _ _ _⟩
  · have d0 : 0 < d := by omega
    obtain ⟨r, hr⟩ : ∃ r, r = z % d := ⟨_, rfl⟩
    have hm := Plain.mod_bd z d0
    rw [← hr] at hm
    obtain ⟨m0, m1⟩ := hm
    have R := Lib.hid hr
    have ir : Plain.I64 (-r) := by unfold Plain.I64; omega
    have ir2 : Plain.I64 (d - r) := by unfold Plain.I64; omega
    by_cases hh : r < d - r
    · have h'' : Plain.At (z + -r) s' n' := by rw [Plain.near_lt d0 (by rw [← hr]; exact hh), ← hr] at h'; exact h'
      clear hr c h'
      go_enter Try.func39, Try.ntmps39
      go_wp2_with fail
      refine (rest_any z d s n r _ h fz hd d0 R.out).mono ?_
      rintro e w1 ⟨rfl, hb1⟩
      have kb1 : Below (w.heap.size + 1 + 1) ((w.alloc (.cells #[.int .i64 s, .int .i64 n] 33)).alloc (.cells #[.int .i64 0, .int .i64 0] 33)) w1 := by simpa using hb1
      obtain ⟨⟨q0, q1⟩, _, _, hlt, _⟩ := box2 kb1
      clear hb1
      go_wp2_with fail
      refine (plus_any z (-r) s n s' n' _ fz ir h h'').mono ?_
      rintro e w2 ⟨rfl, hb2⟩
      obtain ⟨_, ⟨p0, p1⟩, ⟨f0, f1⟩, hlt2, hB⟩ := box2 (kb1.trans (hb2.mono (by omega)))
      clear hb2 kb1 q0 q1 hlt
      go_wp2
      exact bodyPost_ret (v := .agg #[.int .i64 s', .int .i64 n']) (by simp [results, Try.results39, go_sem, p0, p1]) rfl ⟨rfl, (hB.setCell (Nat.le_succ _) _).setCell (Nat.le_succ _) _⟩
    · have h'' : Plain.At (z + (d - r)) s' n' := by rw [Plain.near_ge d0 (by rw [← hr]; exact hh), ← hr] at h'; exact h'
      clear hr c h'
      go_enter Try.func39, Try.ntmps39
      go_wp2_with fail
      refine (rest_any z d s n r _ h fz hd d0 R.out).mono ?_
      rintro e w1 ⟨rfl, hb1⟩
      have kb1 : Below (w.heap.size + 1 + 1) ((w.alloc (.cells #[.int .i64 s, .int .i64 n] 33)).alloc (.cells #[.int .i64 0, .int .i64 0] 33)) w1 := by simpa using hb1
      obtain ⟨⟨q0, q1⟩, _, _, hlt, _⟩ := box2 kb1
      clear hb1
      go_wp2_with fail
      refine (plus_any z (d - r) s n s' n' _ fz ir2 h h'').mono ?_
      rintro e w2 ⟨rfl, hb2⟩
      obtain ⟨_, ⟨p0, p1⟩, ⟨f0, f1⟩, hlt2, hB⟩ := box2 (kb1.trans (hb2.mono (by omega)))
      clear hb2 kb1 q0 q1 hlt
      go_wp2
      exact bodyPost_ret (v := .agg #[.int .i64 s', .int .i64 n']) (by simp [results, Try.results39, go_sem, p0, p1]) rfl ⟨rfl, (hB.setCell (Nat.le_succ _) _).setCell (Nat.le_succ _) _⟩

set_option maxHeartbeats 1000000 in
theorem truncateOf_any (a b d f r : Int) (w : World) (ha : Plain.I64 a) (hb : Plain.I64 b) (hd : Plain.I64 d) (hf : f = Plain.cl (Plain.down (a + b) d)) (hr : r = Plain.p2 (Plain.down (a + b) d)) :
    Calls Try.prog 14 #[.int .i64 a, .int .i64 b, .int .i64 d] w fun e w' => e = .returned (.tuple #[.int .i64 f, .int .i64 r]) ∧ Below w.heap.size w w' := by
  obtain ⟨s1, n1, h1⟩ := Plain.at_ex (a + b)
  obtain ⟨s2, n2, h2⟩ := Plain.at_ex (Plain.down (a + b) d)
  have fz := Plain.far_two ha hb
  have fy := Plain.far_down ha hb hd
  have F := Lib.hid hf
  have R := Lib.hid hr
  clear hf hr
  go_enter Try.func14, Try.ntmps14
  go_wp2_with fail
  refine (reached_any a b s1 n1 _ ha hb h1).mono ?_
  rintro e w1 ⟨rfl, hb1⟩
  go_wp2_with fail
  refine (down_any (a + b) d s1 n1 s2 n2 _ fz hd h1 h2).mono ?_
  rintro e w2 ⟨rfl, hb2⟩
  go_wp2_with fail
  refine (halves_any (Plain.down (a + b) d) s2 n2 f r _ h2 fy F.out R.out).mono ?_
  rintro e w3 ⟨rfl, hb3⟩
  have hB : Below w.heap.size w w3 := (hb1.trans (hb2.mono hb1.size)).trans (hb3.mono (Nat.le_trans hb1.size hb2.size))
  clear hb1 hb2 hb3
  go_wp2
  go_ret2
  exact ⟨rfl, hB⟩

set_option maxHeartbeats 1000000 in
theorem roundOf_any (a b d f r : Int) (w : World) (ha : Plain.I64 a) (hb : Plain.I64 b) (hd : Plain.I64 d) (hf : f = Plain.cl (Plain.near (a + b) d)) (hr : r = Plain.p2 (Plain.near (a + b) d)) :
    Calls Try.prog 24 #[.int .i64 a, .int .i64 b, .int .i64 d] w fun e w' => e = .returned (.tuple #[.int .i64 f, .int .i64 r]) ∧ Below w.heap.size w w' := by
  obtain ⟨s1, n1, h1⟩ := Plain.at_ex (a + b)
  obtain ⟨s2, n2, h2⟩ := Plain.at_ex (Plain.near (a + b) d)
  have fz := Plain.far_two ha hb
  have fy := Plain.far_near ha hb hd
  have F := Lib.hid hf
  have R := Lib.hid hr
  clear hf hr
  go_enter Try.func24, Try.ntmps24
  go_wp2_with fail
  refine (reached_any a b s1 n1 _ ha hb h1).mono ?_
  rintro e w1 ⟨rfl, hb1⟩
  go_wp2_with fail
  refine (near_any (a + b) d s1 n1 s2 n2 _ fz hd h1 h2).mono ?_
  rintro e w2 ⟨rfl, hb2⟩
  go_wp2_with fail
  refine (halves_any (Plain.near (a + b) d) s2 n2 f r _ h2 fy F.out R.out).mono ?_
  rintro e w3 ⟨rfl, hb3⟩
  have hB : Below w.heap.size w w3 := (hb1.trans (hb2.mono hb1.size)).trans (hb3.mono (Nat.le_trans hb1.size hb2.size))
  clear hb1 hb2 hb3
  go_wp2
  go_ret2
  exact ⟨rfl, hB⟩

set_option maxHeartbeats 1000000 in
theorem early_any (x y : Int) (b : Bool) (w : World) (hb : b = decide (x = -9223372036854775808 ∧ y = -9223372036854775808)) :
    Calls Try.prog 18 #[.int .i64 x, .int .i64 y] w fun e w' => e = .returned (.bool b) ∧ Below w.heap.size w w' := by
  by_cases c : x = -9223372036854775808
  · subst c
    by_cases c2 : y = -9223372036854775808
    · subst c2
      obtain rfl : b = true := by rw [hb]; rfl
      clear hb
      go_enter Try.func18, Try.ntmps18
      go_wp2
      go_ret
      exact ⟨rfl, Below.refl _ _⟩
    · obtain rfl : b = false := by rw [hb]; simpa using c2
      have k : (y == -9223372036854775808) = false := by simpa using c2
      clear hb c2
      go_enter Try.func18, Try.ntmps18
      go_wp2
      go_ret
      exact ⟨rfl, Below.refl _ _⟩
  · obtain rfl : b = false := by rw [hb]; simp [c]
    have k : (x == -9223372036854775808) = false := by simpa using c
    clear hb c
    go_enter Try.func18, Try.ntmps18
    go_wp2
    go_ret
    exact ⟨rfl, Below.refl _ _⟩

set_option maxHeartbeats 1000000 in
theorem late_any (x y : Int) (b : Bool) (w : World) (hb : b = decide (x = 9223372036854775807 ∧ y = 9223372036854775807)) :
    Calls Try.prog 26 #[.int .i64 x, .int .i64 y] w fun e w' => e = .returned (.bool b) ∧ Below w.heap.size w w' := by
  by_cases c : x = 9223372036854775807
  · subst c
    by_cases c2 : y = 9223372036854775807
    · subst c2
      obtain rfl : b = true := by rw [hb]; rfl
      clear hb
      go_enter Try.func26, Try.ntmps26
      go_wp2
      go_ret
      exact ⟨rfl, Below.refl _ _⟩
    · obtain rfl : b = false := by rw [hb]; simpa using c2
      have k : (y == 9223372036854775807) = false := by simpa using c2
      clear hb c2
      go_enter Try.func26, Try.ntmps26
      go_wp2
      go_ret
      exact ⟨rfl, Below.refl _ _⟩
  · obtain rfl : b = false := by rw [hb]; simp [c]
    have k : (x == 9223372036854775807) = false := by simpa using c
    clear hb c
    go_enter Try.func26, Try.ntmps26
    go_wp2
    go_ret
    exact ⟨rfl, Below.refl _ _⟩

end Go.Proofs.Ytllhfhgjhchlbaa.Sp
