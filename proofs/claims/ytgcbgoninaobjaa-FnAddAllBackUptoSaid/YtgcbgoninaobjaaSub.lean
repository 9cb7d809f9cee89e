/-
  Contracts of (time.Time).Sub, at times without a clock reading and without a location.
-/
import Derived.Test.YtgcbgoninaobjaaTime
import Derived.Deep.RegionHeld3
import Derived.Deep.DeepCutAuto
namespace Go.Proofs.Ytgcbgoninaobjaa
open Go.RowKit

/-- What is known of the world behind a call that changes nothing that was there: the six cells of two boxed times. -/
theorem six_kept {W w1 : World} {B : Nat} (hb : Below B W w1) {g g' : Nat} (h : g < B) (h' : g' < B) {x0 x1 x2 y0 y1 y2 : Value}
    (k : W.cell? ⟨g, 0, none⟩ = some x0 ∧ W.cell? ⟨g, 1, none⟩ = some x1 ∧ W.cell? ⟨g, 2, none⟩ = some x2 ∧ W.cell? ⟨g', 0, none⟩ = some y0 ∧ W.cell? ⟨g', 1, none⟩ = some y1 ∧ W.cell? ⟨g', 2, none⟩ = some y2) :
    w1.cell? ⟨g, 0, none⟩ = some x0 ∧ w1.cell? ⟨g, 1, none⟩ = some x1 ∧ w1.cell? ⟨g, 2, none⟩ = some x2 ∧ w1.cell? ⟨g', 0, none⟩ = some y0 ∧ w1.cell? ⟨g', 1, none⟩ = some y1 ∧ w1.cell? ⟨g', 2, none⟩ = some y2 := by
  refine ⟨?_, ?_, ?_, ?_, ?_, ?_⟩
  · exact (hb.cell (p := ⟨g, 0, none⟩) h).trans k.1
  · exact (hb.cell (p := ⟨g, 1, none⟩) h).trans k.2.1
  · exact (hb.cell (p := ⟨g, 2, none⟩) h).trans k.2.2.1
  · exact (hb.cell (p := ⟨g', 0, none⟩) h').trans k.2.2.2.1
  · exact (hb.cell (p := ⟨g', 1, none⟩) h').trans k.2.2.2.2.1
  · exact (hb.cell (p := ⟨g', 2, none⟩) h').trans k.2.2.2.2.2

set_option maxHeartbeats 1000000 in
theorem sub_in (z y s n s2 n2 D s3 n3 : Int) (w : World) (h : Plain.At z s n) (h2 : Plain.At y s2 n2) (h3 : Plain.At (y + D) s3 n3) (fy : Plain.Far y) (iD : Plain.I64 D)
    (hD : wrap64 (wrap64 ((s - s2) * 1000000000) + (n - n2)) = D) (hr : y + D = z)
    (a0 : 0 ≤ n) (a1 : n < 1000000000) (c0 : 0 ≤ n2) (c1 : n2 < 1000000000)
    (g0 : -4000000000000000001 ≤ s) (g1 : s ≤ 4000000000000000000) (g2 : -4000000000000000001 ≤ s2) (g3 : s2 ≤ 4000000000000000000) :
    Calls Try.prog 39 #[.agg #[.int .u64 n, .int .i64 s, .pointer none], .agg #[.int .u64 n2, .int .i64 s2, .pointer none]] w fun e w' => e = .returned (.int .i64 D) ∧ Below w.heap.size w w' := by
  have b1 := Bits.both n n2 a0 a1 c0 c1
  have b2 := Bits.mono n a0 a1
  have b3 := Bits.mono n2 c0 c1
  have b4 := Bits.mask n a0 a1
  have b5 := Bits.mask n2 c0 c1
  have H := Lib.hid hr
  clear hr
  go_enter Try.func39, Try.ntmps39
  go_wp2
  go_region_held3 (fun w' => w'.cell? ⟨w.heap.size, 0, none⟩ = some (.int .u64 n) ∧ w'.cell? ⟨w.heap.size, 1, none⟩ = some (.int .i64 s) ∧ w'.cell? ⟨w.heap.size, 2, none⟩ = some (.pointer none) ∧ w'.cell? ⟨w.heap.size + 1, 0, none⟩ = some (.int .u64 n2) ∧ w'.cell? ⟨w.heap.size + 1, 1, none⟩ = some (.int .i64 s2) ∧ w'.cell? ⟨w.heap.size + 1, 2, none⟩ = some (.pointer none))
    (first | (simp; done) | exact six_kept hb2 (by omega) (by omega) (six_kept hb1 (by simp; omega) (by simp) (by simp)) | exact six_kept hb1 (by simp; omega) (by simp) (by simp))
    (first | (go_at_call 37; refine (add_any y D s2 n2 s3 n3 _ fy iD h2 h3).mono ?_; rintro e w1 ⟨rfl, hb1⟩; have z1 : w.heap.size + 1 < w1.heap.size := (by have := hb1.size; simp at this; omega)) | (go_at_call 29; refine (equal_any (y + D) z s3 n3 s n true _ h3 h (by simpa using H.out)).mono ?_; rintro e w2 ⟨rfl, hb2⟩))
  go_wp2
  go_ret
  exact ⟨rfl, ((two_new w _ _).drew.trans (hb1.mono (by simp; omega))).trans (hb2.mono (by omega))⟩

set_option maxHeartbeats 1000000 in
theorem sub_out (z y s n s2 n2 D s3 n3 r : Int) (b : Bool) (w : World) (h : Plain.At z s n) (h2 : Plain.At y s2 n2) (h3 : Plain.At (y + D) s3 n3) (fy : Plain.Far y) (iD : Plain.I64 D)
    (hD : wrap64 (wrap64 ((s - s2) * 1000000000) + (n - n2)) = D) (hr : y + D ≠ z) (hb : b = decide (z < y)) (hrb : r = if b then -9223372036854775808 else 9223372036854775807)
    (a0 : 0 ≤ n) (a1 : n < 1000000000) (c0 : 0 ≤ n2) (c1 : n2 < 1000000000)
    (g0 : -4000000000000000001 ≤ s) (g1 : s ≤ 4000000000000000000) (g2 : -4000000000000000001 ≤ s2) (g3 : s2 ≤ 4000000000000000000) :
    Calls Try.prog 39 #[.agg #[.int .u64 n, .int .i64 s, .pointer none], .agg #[.int .u64 n2, .int .i64 s2, .pointer none]] w fun e w' => e = .returned (.int .i64 r) ∧ Below w.heap.size w w' := by
  have b1 := Bits.both n n2 a0 a1 c0 c1
  have b2 := Bits.mono n a0 a1
  have b3 := Bits.mono n2 c0 c1
  have b4 := Bits.mask n a0 a1
  have b5 := Bits.mask n2 c0 c1
  have H := Lib.hid hr
  have Hb := Lib.hid hb
  have Hr := Lib.hid hrb
  clear hr hb hrb
  go_enter Try.func39, Try.ntmps39
  go_wp2
  go_region_held3 (fun w' => w'.cell? ⟨w.heap.size, 0, none⟩ = some (.int .u64 n) ∧ w'.cell? ⟨w.heap.size, 1, none⟩ = some (.int .i64 s) ∧ w'.cell? ⟨w.heap.size, 2, none⟩ = some (.pointer none) ∧ w'.cell? ⟨w.heap.size + 1, 0, none⟩ = some (.int .u64 n2) ∧ w'.cell? ⟨w.heap.size + 1, 1, none⟩ = some (.int .i64 s2) ∧ w'.cell? ⟨w.heap.size + 1, 2, none⟩ = some (.pointer none))
    (first | (simp; done) | exact six_kept hb2 (by omega) (by omega) (six_kept hb1 (by simp; omega) (by simp) (by simp)) | exact six_kept hb1 (by simp; omega) (by simp) (by simp))
    (first | (go_at_call 37; refine (add_any y D s2 n2 s3 n3 _ fy iD h2 h3).mono ?_; rintro e w1 ⟨rfl, hb1⟩; have z1 : w.heap.size + 1 < w1.heap.size := (by have := hb1.size; simp at this; omega)) | (go_at_call 29; refine (equal_any (y + D) z s3 n3 s n false _ h3 h (by simpa using H.out)).mono ?_; rintro e w2 ⟨rfl, hb2⟩))
  obtain ⟨q0, q1, q2, q3, q4, q5⟩ := six_kept hb2 (g := w.heap.size) (g' := w.heap.size + 1) (by omega) (by omega) (six_kept hb1 (g := w.heap.size) (g' := w.heap.size + 1) (x0 := .int .u64 n) (x1 := .int .i64 s) (x2 := .pointer none) (y0 := .int .u64 n2) (y1 := .int .i64 s2) (y2 := .pointer none) (by simp; omega) (by simp) (by simp))
  have hB : Below w.heap.size w w2 := ((two_new w _ _).drew.trans (hb1.mono (by simp; omega))).trans (hb2.mono (by omega))
  have z2 : w.heap.size ≤ w2.heap.size := hB.size
  cases b with
  | false =>
    obtain rfl : r = 9223372036854775807 := by simpa using Hr.out
    clear Hr hb1 hb2
    go_wp2_with (go_at_call 35; refine (before_any z y s n s2 n2 false _ h h2 Hb.out).mono ?_; rintro e w3 ⟨rfl, hb3⟩)
    go_ret
    exact ⟨rfl, hB.trans (hb3.mono z2)⟩
  | true =>
    obtain rfl : r = -9223372036854775808 := by simpa using Hr.out
    clear Hr hb1 hb2
    go_wp2_with (go_at_call 35; refine (before_any z y s n s2 n2 true _ h h2 Hb.out).mono ?_; rintro e w3 ⟨rfl, hb3⟩)
    go_ret
    exact ⟨rfl, hB.trans (hb3.mono z2)⟩

theorem wrap_sub {z y s n s2 n2 : Int} (h : Plain.At z s n) (h2 : Plain.At y s2 n2) : ∃ D, wrap64 (wrap64 ((s - s2) * 1000000000) + (n - n2)) = D ∧ Plain.I64 D ∧ (Plain.I64 (z - y) → D = z - y) := by
  unfold Plain.At at h h2
  refine ⟨_, rfl, ?_⟩
  unfold wrap64 Plain.I64
  omega

theorem sub_any (z y s n s2 n2 r : Int) (w : World) (h : Plain.At z s n) (h2 : Plain.At y s2 n2) (fz : Plain.Far z) (fy : Plain.Far y) (hr : r = Plain.cl (z - y)) :
    Calls Try.prog 39 #[.agg #[.int .u64 n, .int .i64 s, .pointer none], .agg #[.int .u64 n2, .int .i64 s2, .pointer none]] w fun e w' => e = .returned (.int .i64 r) ∧ Below w.heap.size w w' := by
  obtain ⟨D, hD, iD, hin⟩ := wrap_sub h h2
  obtain ⟨s3, n3, h3⟩ := Plain.at_ex (y + D)
  have g := Plain.far_sec h fz
  have g' := Plain.far_sec h2 fy
  by_cases c : Plain.I64 (z - y)
  · have e := hin c
    obtain rfl : r = D := by rw [hr, e]; exact Plain.cl_in c.1 c.2
    exact sub_in z y s n s2 n2 r s3 n3 w h h2 h3 fy iD hD (by omega) h.2.1 h.2.2 h2.2.1 h2.2.2 g.1 g.2 g'.1 g'.2
  · have hne : y + D ≠ z := fun e => c (by rw [show z - y = D from by omega]; exact iD)
    refine sub_out z y s n s2 n2 D s3 n3 r (decide (z < y)) w h h2 h3 fy iD hD hne rfl ?_ h.2.1 h.2.2 h2.2.1 h2.2.2 g.1 g.2 g'.1 g'.2
    rw [hr]
    unfold Plain.I64 at c
    by_cases l : z < y
    · rw [Plain.cl_lo (by omega)]; simp [l]
    · rw [Plain.cl_hi (by omega)]; simp [l]

end Go.Proofs.Ytgcbgoninaobjaa
