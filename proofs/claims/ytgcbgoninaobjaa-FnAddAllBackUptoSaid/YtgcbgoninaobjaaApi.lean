/-
  Contracts of the thin package's functions and of the reference's, at all arguments of 64 bits.
-/
import Derived.Test.YtgcbgoninaobjaaSub
import Derived.Test.YtgcbgoninaobjaaSpec
namespace Go.Proofs.Ytgcbgoninaobjaa
open Go.RowKit

theorem ret_two {a b c d : Int} (h1 : a = c) (h2 : b = d) : Ending.returned (.tuple #[.int .i64 a, .int .i64 b]) = .returned (.tuple #[.int .i64 c, .int .i64 d]) := by rw [h1, h2]

/-- The result's slot, laid ahead of calls that change nothing that was there. -/
theorem slot3 {w w2 : World} {x0 x1 x2 : Value} {t : TypeId} (hb : Below (w.heap.size + 1) (w.alloc (.cells #[x0, x1, x2] t)) w2) :
    w2.cell? ⟨w.heap.size, 0, none⟩ = some x0 ∧ w2.cell? ⟨w.heap.size, 1, none⟩ = some x1 ∧ w2.cell? ⟨w.heap.size, 2, none⟩ = some x2 ∧ w2.frozen? ⟨w.heap.size, 0, none⟩ = false ∧ w2.frozen? ⟨w.heap.size, 1, none⟩ = false ∧ w2.frozen? ⟨w.heap.size, 2, none⟩ = false ∧ w.heap.size < w2.heap.size ∧ Below w.heap.size w w2 := by
  refine ⟨?_, ?_, ?_, ?_, ?_, ?_, ?_, ?_⟩
  · exact (hb.cell (p := ⟨w.heap.size, 0, none⟩) (by simp)).trans (by simp)
  · exact (hb.cell (p := ⟨w.heap.size, 1, none⟩) (by simp)).trans (by simp)
  · exact (hb.cell (p := ⟨w.heap.size, 2, none⟩) (by simp)).trans (by simp)
  · exact (hb.frozen (p := ⟨w.heap.size, 0, none⟩) (by simp)).trans (by simp)
  · exact (hb.frozen (p := ⟨w.heap.size, 1, none⟩) (by simp)).trans (by simp)
  · exact (hb.frozen (p := ⟨w.heap.size, 2, none⟩) (by simp)).trans (by simp)
  · have := hb.size; simp at this; omega
  · exact ((Below.refl _ w).alloc (Nat.le_refl _) _).trans (hb.mono (by omega))

theorem three_kept {W w1 : World} {B : Nat} (hb : Below B W w1) {g : Nat} (h : g < B) {x0 x1 x2 : Value} (k : W.cell? ⟨g, 0, none⟩ = some x0 ∧ W.cell? ⟨g, 1, none⟩ = some x1 ∧ W.cell? ⟨g, 2, none⟩ = some x2) :
    w1.cell? ⟨g, 0, none⟩ = some x0 ∧ w1.cell? ⟨g, 1, none⟩ = some x1 ∧ w1.cell? ⟨g, 2, none⟩ = some x2 :=
  ⟨(hb.cell (p := ⟨g, 0, none⟩) h).trans k.1, (hb.cell (p := ⟨g, 1, none⟩) h).trans k.2.1, (hb.cell (p := ⟨g, 2, none⟩) h).trans k.2.2⟩

set_option maxHeartbeats 1000000 in
theorem zero_any (a s n : Int) (w : World) (ha : Plain.I64 a) (h : Plain.At a s n) :
    Calls Try.prog 40 #[.int .i64 a] w fun e w' => e = .returned (.agg #[.int .u64 n, .int .i64 s, .pointer none]) ∧ Below w.heap.size w w' := by
  have h' : Plain.At (0 + a) s n := by rw [Int.zero_add]; exact h
  go_enter Try.func40, Try.ntmps40
  go_wp2_with fail
  refine (add_any 0 a 0 0 s n _ Plain.far_zero ha Plain.at_zero h').mono ?_
  rintro e w1 ⟨rfl, hb1⟩
  obtain ⟨q0, q1, q2, z0, z1, z2, hlt, hB⟩ := slot3 (show Below (w.heap.size + 1) _ w1 from by simpa using hb1)
  clear hb1
  go_wp2
  exact bodyPost_ret (v := .agg #[.int .u64 n, .int .i64 s, .pointer none]) (by simp [results, Try.results40, go_sem, q0, q1, q2]) rfl ⟨rfl, ((hB.setCell (Nat.le_refl _) _).setCell (Nat.le_refl _) _).setCell (Nat.le_refl _) _⟩

set_option maxHeartbeats 1000000 in
theorem instant_any (a b s n : Int) (w : World) (ha : Plain.I64 a) (hb : Plain.I64 b) (h : Plain.At (a + b) s n) :
    Calls Try.prog 27 #[.int .i64 a, .int .i64 b] w fun e w' => e = .returned (.agg #[.int .u64 n, .int .i64 s, .pointer none]) ∧ Below w.heap.size w w' := by
  obtain ⟨s1, n1, h1⟩ := Plain.at_ex a
  go_enter Try.func27, Try.ntmps27
  go_wp2_with fail
  refine (zero_any a s1 n1 _ ha h1).mono ?_
  rintro e w1 ⟨rfl, hb1⟩
  go_wp2_with fail
  refine (add_any a b s1 n1 s n _ (Plain.far_one ha) hb h1 h).mono ?_
  rintro e w2 ⟨rfl, hb2⟩
  obtain ⟨q0, q1, q2, z0, z1, z2, hlt, hB⟩ := slot3 ((show Below (w.heap.size + 1) _ w1 from by simpa using hb1).trans (hb2.mono (by have := hb1.size; simpa using this)))
  clear hb1 hb2
  go_wp2
  exact bodyPost_ret (v := .agg #[.int .u64 n, .int .i64 s, .pointer none]) (by simp [results, Try.results27, go_sem, q0, q1, q2]) rfl ⟨rfl, ((hB.setCell (Nat.le_refl _) _).setCell (Nat.le_refl _) _).setCell (Nat.le_refl _) _⟩

set_option maxHeartbeats 1000000 in
theorem parts_any (z s n f r : Int) (w : World) (h : Plain.At z s n) (fz : Plain.Far z) (hf : f = Plain.cl z) (hr : r = Plain.p2 z) :
    Calls Try.prog 33 #[.agg #[.int .u64 n, .int .i64 s, .pointer none]] w fun e w' => e = .returned (.tuple #[.int .i64 f, .int .i64 r]) ∧ Below w.heap.size w w' := by
  obtain ⟨s1, n1, h1⟩ := Plain.at_ex f
  have if1 : Plain.I64 f := by rw [hf]; exact Plain.cl_i64 z
  have f1 : Plain.Far f := Plain.far_one if1
  have hf' : f = Plain.cl (z - 0) := by rw [hf, Int.sub_zero]
  have hr' : r = Plain.cl (z - f) := by rw [hr, hf]; rfl
  have F := Lib.hid hf'
  have R := Lib.hid hr'
  clear hf hr hf' hr'
  go_enter Try.func33, Try.ntmps33
  go_wp2_with (go_at_call 39; refine (sub_any z 0 s n 0 0 f _ h Plain.at_zero fz Plain.far_zero F.out).mono ?_; rintro e w1 ⟨rfl, hb1⟩)
  obtain ⟨q0, q1, q2, _, _, _, hlt, hB⟩ := slot3 (show Below (w.heap.size + 1) _ w1 from by simpa using hb1)
  go_region_held3 (fun w' => w'.cell? ⟨w.heap.size, 0, none⟩ = some (.int .u64 n) ∧ w'.cell? ⟨w.heap.size, 1, none⟩ = some (.int .i64 s) ∧ w'.cell? ⟨w.heap.size, 2, none⟩ = some (.pointer none))
    (first | (simp [q0, q1, q2]; done) | exact three_kept hb3 (by omega) (three_kept hb2 hlt ⟨q0, q1, q2⟩) | exact three_kept hb2 hlt ⟨q0, q1, q2⟩)
    (first | (go_at_call 40; refine (zero_any f s1 n1 _ if1 h1).mono ?_; rintro e w2 ⟨rfl, hb2⟩; have k2 : w1.heap.size ≤ w2.heap.size := hb2.size) | (go_at_call 39; refine (sub_any z f s n s1 n1 r _ h h1 fz f1 R.out).mono ?_; rintro e w3 ⟨rfl, hb3⟩))
  go_wp2
  go_ret2
  exact ⟨rfl, (hB.drew.trans (hb2.mono (by show w.heap.size ≤ w1.heap.size; omega))).trans (hb3.mono (by omega))⟩

set_option maxHeartbeats 1000000 in
theorem subOf_any (a b c d : Int) (r : Int) (w : World) (ha : Plain.I64 a) (hb : Plain.I64 b) (hc : Plain.I64 c) (hd : Plain.I64 d) (hr : r = Plain.cl (a + b - (c + d))) :
    Calls Try.prog 26 #[.int .i64 a, .int .i64 b, .int .i64 c, .int .i64 d] w fun e w' => e = .returned (.int .i64 r) ∧ Below w.heap.size w w' := by
  obtain ⟨s1, n1, h1⟩ := Plain.at_ex (a + b)
  obtain ⟨s2, n2, h2⟩ := Plain.at_ex (c + d)
  have R := Lib.hid hr
  clear hr
  go_enter Try.func26, Try.ntmps26
  go_wp2_with fail
  refine (instant_any a b s1 n1 _ ha hb h1).mono ?_
  rintro e w1 ⟨rfl, hb1⟩
  go_wp2_with fail
  refine (instant_any c d s2 n2 _ hc hd h2).mono ?_
  rintro e w2 ⟨rfl, hb2⟩
  go_wp2_with fail
  refine (sub_any (a + b) (c + d) s1 n1 s2 n2 r _ h1 h2 (Plain.far_two ha hb) (Plain.far_two hc hd) R.out).mono ?_
  rintro e w3 ⟨rfl, hb3⟩
  have hB : Below w.heap.size w w3 := (hb1.trans (hb2.mono hb1.size)).trans (hb3.mono (Nat.le_trans hb1.size hb2.size))
  clear hb1 hb2 hb3
  go_wp2
  go_ret
  exact ⟨rfl, hB⟩

set_option maxHeartbeats 1000000 in
theorem compareOf_any (a b c d : Int) (r : Int) (w : World) (ha : Plain.I64 a) (hb : Plain.I64 b) (hc : Plain.I64 c) (hd : Plain.I64 d) (hr : r = Plain.sg (a + b) (c + d)) :
    Calls Try.prog 17 #[.int .i64 a, .int .i64 b, .int .i64 c, .int .i64 d] w fun e w' => e = .returned (.int .i64 r) ∧ Below w.heap.size w w' := by
  obtain ⟨s1, n1, h1⟩ := Plain.at_ex (a + b)
  obtain ⟨s2, n2, h2⟩ := Plain.at_ex (c + d)
  have R := Lib.hid hr
  clear hr
  go_enter Try.func17, Try.ntmps17
  go_wp2_with fail
  refine (instant_any a b s1 n1 _ ha hb h1).mono ?_
  rintro e w1 ⟨rfl, hb1⟩
  go_wp2_with fail
  refine (instant_any c d s2 n2 _ hc hd h2).mono ?_
  rintro e w2 ⟨rfl, hb2⟩
  go_wp2_with fail
  refine (compare_any (a + b) (c + d) s1 n1 s2 n2 r _ h1 h2 R.out).mono ?_
  rintro e w3 ⟨rfl, hb3⟩
  have hB : Below w.heap.size w w3 := (hb1.trans (hb2.mono hb1.size)).trans (hb3.mono (Nat.le_trans hb1.size hb2.size))
  clear hb1 hb2 hb3
  go_wp2
  go_ret
  exact ⟨rfl, hB⟩

set_option maxHeartbeats 1000000 in
theorem beforeOf_any (a b c d : Int) (r : Bool) (w : World) (ha : Plain.I64 a) (hb : Plain.I64 b) (hc : Plain.I64 c) (hd : Plain.I64 d) (hr : r = decide (a + b < c + d)) :
    Calls Try.prog 20 #[.int .i64 a, .int .i64 b, .int .i64 c, .int .i64 d] w fun e w' => e = .returned (.bool r) ∧ Below w.heap.size w w' := by
  obtain ⟨s1, n1, h1⟩ := Plain.at_ex (a + b)
  obtain ⟨s2, n2, h2⟩ := Plain.at_ex (c + d)
  have R := Lib.hid hr
  clear hr
  go_enter Try.func20, Try.ntmps20
  go_wp2_with fail
  refine (instant_any a b s1 n1 _ ha hb h1).mono ?_
  rintro e w1 ⟨rfl, hb1⟩
  go_wp2_with fail
  refine (instant_any c d s2 n2 _ hc hd h2).mono ?_
  rintro e w2 ⟨rfl, hb2⟩
  go_wp2_with fail
  refine (before_any (a + b) (c + d) s1 n1 s2 n2 r _ h1 h2 R.out).mono ?_
  rintro e w3 ⟨rfl, hb3⟩
  have hB : Below w.heap.size w w3 := (hb1.trans (hb2.mono hb1.size)).trans (hb3.mono (Nat.le_trans hb1.size hb2.size))
  clear hb1 hb2 hb3
  go_wp2
  go_ret
  exact ⟨rfl, hB⟩

set_option maxHeartbeats 1000000 in
theorem afterOf_any (a b c d : Int) (r : Bool) (w : World) (ha : Plain.I64 a) (hb : Plain.I64 b) (hc : Plain.I64 c) (hd : Plain.I64 d) (hr : r = decide (c + d < a + b)) :
    Calls Try.prog 21 #[.int .i64 a, .int .i64 b, .int .i64 c, .int .i64 d] w fun e w' => e = .returned (.bool r) ∧ Below w.heap.size w w' := by
  obtain ⟨s1, n1, h1⟩ := Plain.at_ex (a + b)
  obtain ⟨s2, n2, h2⟩ := Plain.at_ex (c + d)
  have R := Lib.hid hr
  clear hr
  go_enter Try.func21, Try.ntmps21
  go_wp2_with fail
  refine (instant_any a b s1 n1 _ ha hb h1).mono ?_
  rintro e w1 ⟨rfl, hb1⟩
  go_wp2_with fail
  refine (instant_any c d s2 n2 _ hc hd h2).mono ?_
  rintro e w2 ⟨rfl, hb2⟩
  go_wp2_with fail
  refine (after_any (a + b) (c + d) s1 n1 s2 n2 r _ h1 h2 R.out).mono ?_
  rintro e w3 ⟨rfl, hb3⟩
  have hB : Below w.heap.size w w3 := (hb1.trans (hb2.mono hb1.size)).trans (hb3.mono (Nat.le_trans hb1.size hb2.size))
  clear hb1 hb2 hb3
  go_wp2
  go_ret
  exact ⟨rfl, hB⟩

set_option maxHeartbeats 1000000 in
theorem equalOf_any (a b c d : Int) (r : Bool) (w : World) (ha : Plain.I64 a) (hb : Plain.I64 b) (hc : Plain.I64 c) (hd : Plain.I64 d) (hr : r = decide (a + b = c + d)) :
    Calls Try.prog 15 #[.int .i64 a, .int .i64 b, .int .i64 c, .int .i64 d] w fun e w' => e = .returned (.bool r) ∧ Below w.heap.size w w' := by
  obtain ⟨s1, n1, h1⟩ := Plain.at_ex (a + b)
  obtain ⟨s2, n2, h2⟩ := Plain.at_ex (c + d)
  have R := Lib.hid hr
  clear hr
  go_enter Try.func15, Try.ntmps15
  go_wp2_with fail
  refine (instant_any a b s1 n1 _ ha hb h1).mono ?_
  rintro e w1 ⟨rfl, hb1⟩
  go_wp2_with fail
  refine (instant_any c d s2 n2 _ hc hd h2).mono ?_
  rintro e w2 ⟨rfl, hb2⟩
  go_wp2_with fail
  refine (equal_any (a + b) (c + d) s1 n1 s2 n2 r _ h1 h2 R.out).mono ?_
  rintro e w3 ⟨rfl, hb3⟩
  have hB : Below w.heap.size w w3 := (hb1.trans (hb2.mono hb1.size)).trans (hb3.mono (Nat.le_trans hb1.size hb2.size))
  clear hb1 hb2 hb3
  go_wp2
  go_ret
  exact ⟨rfl, hB⟩

set_option maxHeartbeats 1000000 in
theorem zeroOf_any (a b : Int) (r : Bool) (w : World) (ha : Plain.I64 a) (hb : Plain.I64 b) (hr : r = decide (a + b = 0)) :
    Calls Try.prog 14 #[.int .i64 a, .int .i64 b] w fun e w' => e = .returned (.bool r) ∧ Below w.heap.size w w' := by
  obtain ⟨s1, n1, h1⟩ := Plain.at_ex (a + b)
  by_cases hz : a + b = 0
  · have h0 : Plain.At 0 s1 n1 := hz ▸ h1
    obtain ⟨rfl, rfl⟩ := Plain.at_uniq h0 Plain.at_zero
    obtain rfl : r = true := by rw [hr]; simpa using hz
    clear hr hz h0
    go_enter Try.func14, Try.ntmps14
    go_wp2_with fail
    refine (instant_any a b _ _ _ ha hb h1).mono ?_
    rintro e w1 ⟨rfl, hb1⟩
    go_wp2
    go_ret
    exact ⟨rfl, hb1.alloc hb1.size _⟩
  · obtain rfl : r = false := by rw [hr]; simpa using hz
    have e1 := h1.1
    have e2 : ¬ (n1 = 0 ∧ s1 = 0) := by omega
    by_cases k : n1 = 0
    · subst k
      have k2 : (s1 == 0) = false := by simp; omega
      clear hr hz e1 e2
      go_enter Try.func14, Try.ntmps14
      go_wp2_with fail
      refine (instant_any a b _ _ _ ha hb h1).mono ?_
      rintro e w1 ⟨rfl, hb1⟩
      go_wp2
      go_ret
      exact ⟨rfl, hb1.alloc hb1.size _⟩
    · have k2 : (n1 == 0) = false := by simp; omega
      clear hr hz e1 e2 k
      go_enter Try.func14, Try.ntmps14
      go_wp2_with fail
      refine (instant_any a b _ _ _ ha hb h1).mono ?_
      rintro e w1 ⟨rfl, hb1⟩
      go_wp2
      go_ret
      exact ⟨rfl, hb1.alloc hb1.size _⟩

set_option maxHeartbeats 1000000 in
theorem addTo_any (a b f r : Int) (w : World) (ha : Plain.I64 a) (hb : Plain.I64 b) (hf : f = Plain.cl (a + b)) (hr : r = Plain.p2 (a + b)) :
    Calls Try.prog 18 #[.int .i64 a, .int .i64 b] w fun e w' => e = .returned (.tuple #[.int .i64 f, .int .i64 r]) ∧ Below w.heap.size w w' := by
  obtain ⟨s1, n1, h1⟩ := Plain.at_ex (a + b)
  have F := Lib.hid hf
  have R := Lib.hid hr
  clear hf hr
  go_enter Try.func18, Try.ntmps18
  go_wp2_with fail
  refine (instant_any a b s1 n1 _ ha hb h1).mono ?_
  rintro e w1 ⟨rfl, hb1⟩
  go_wp2_with fail
  refine (parts_any (a + b) s1 n1 f r _ h1 (Plain.far_two ha hb) F.out R.out).mono ?_
  rintro e w2 ⟨rfl, hb2⟩
  have hB : Below w.heap.size w w2 := hb1.trans (hb2.mono hb1.size)
  clear hb1 hb2
  go_wp2
  go_ret2
  exact ⟨rfl, hB⟩

end Go.Proofs.Ytgcbgoninaobjaa

namespace Go.Proofs.Ytgcbgoninaobjaa.Sp
open Go.RowKit


set_option maxHeartbeats 1000000 in
theorem compareOf_any (a b c d : Int) (r : Int) (w : World) (ha : Plain.I64 a) (hb : Plain.I64 b) (hc : Plain.I64 c) (hd : Plain.I64 d) (hr : r = Plain.sg (a + b) (c + d)) :
    Calls Try.prog 16 #[.int .i64 a, .int .i64 b, .int .i64 c, .int .i64 d] w fun e w' => e = .returned (.int .i64 r) ∧ Below w.heap.size w w' := by
  obtain ⟨s1, n1, h1⟩ := Plain.at_ex (a + b)
  obtain ⟨s2, n2, h2⟩ := Plain.at_ex (c + d)
  have R := Lib.hid hr
  clear hr
  go_enter Try.func16, Try.ntmps16
  go_wp2_with fail
  refine (reached_any a b s1 n1 _ ha hb h1).mono ?_
  rintro e w1 ⟨rfl, hb1⟩
  go_wp2_with fail
  refine (reached_any c d s2 n2 _ hc hd h2).mono ?_
  rintro e w2 ⟨rfl, hb2⟩
  go_wp2_with fail
  refine (order_any (a + b) (c + d) s1 n1 s2 n2 r _ h1 h2 R.out).mono ?_
  rintro e w3 ⟨rfl, hb3⟩
  have hB : Below w.heap.size w w3 := (hb1.trans (hb2.mono hb1.size)).trans (hb3.mono (Nat.le_trans hb1.size hb2.size))
  clear hb1 hb2 hb3
  go_wp2
  go_ret
  exact ⟨rfl, hB⟩





set_option maxHeartbeats 1000000 in
theorem addTo_any (a b f r : Int) (w : World) (ha : Plain.I64 a) (hb : Plain.I64 b) (hf : f = Plain.cl (a + b)) (hr : r = Plain.p2 (a + b)) :
    Calls Try.prog 19 #[.int .i64 a, .int .i64 b] w fun e w' => e = .returned (.tuple #[.int .i64 f, .int .i64 r]) ∧ Below w.heap.size w w' := by
  obtain ⟨s1, n1, h1⟩ := Plain.at_ex (a + b)
  have F := Lib.hid hf
  have R := Lib.hid hr
  clear hf hr
  go_enter Try.func19, Try.ntmps19
  go_wp2_with fail
  refine (reached_any a b s1 n1 _ ha hb h1).mono ?_
  rintro e w1 ⟨rfl, hb1⟩
  go_wp2_with fail
  refine (halves_any (a + b) s1 n1 f r _ h1 (Plain.far_two ha hb) F.out R.out).mono ?_
  rintro e w2 ⟨rfl, hb2⟩
  have hB : Below w.heap.size w w2 := hb1.trans (hb2.mono hb1.size)
  clear hb1 hb2
  go_wp2
  go_ret2
  exact ⟨rfl, hB⟩

end Go.Proofs.Ytgcbgoninaobjaa.Sp
