/-
  The contract of time.div: the remainder of an instant by a duration, at times without a clock reading. The two special cases.
-/
import Derived.Test.YtmdhpkhmmnmdlaaTime
import Derived.Deep.DeepCutAuto
namespace Go.Proofs.Ytmdhpkhmmnmdlaa
open Go.RowKit
set_option linter.unusedVariables false

/-- What time.div leaves: some parity of the quotient, and the remainder. -/
def DivRet (r : Int) (w : World) (e : Ending) (w' : World) : Prop := ∃ q : Int, e = .returned (.tuple #[.int .i64 q, .int .i64 r]) ∧ Below w.heap.size w w'

/-- What the first lines of time.div leave: the absolute value of an instant, and whether it is negative. -/
def AbsOf (s n S N : Int) (neg : Bool) : Prop := ((neg = false ∧ 0 ≤ s ∧ S = s ∧ N = n) ∨ (neg = true ∧ s < 0 ∧ S * 1000000000 + N = -(s * 1000000000 + n))) ∧ 0 ≤ N ∧ N < 1000000000

theorem AbsOf.pos {s n S N : Int} {neg : Bool} (h : AbsOf s n S N neg) (p : 0 ≤ s) : false = neg ∧ n = N ∧ s = S := by
  rcases h with ⟨⟨h1, h2, h3, h4⟩ | ⟨h1, h2, h3⟩, h5, h6⟩
  · exact ⟨h1.symm, h4.symm, h3.symm⟩
  · omega
theorem AbsOf.neg1 {s n S N : Int} {neg : Bool} (h : AbsOf s n S N neg) (p : s < 0) (p2 : -n < 0) (a1 : n < 1000000000) : true = neg ∧ -n + 1000000000 = N ∧ -s - 1 = S := by
  rcases h with ⟨⟨h1, h2, h3, h4⟩ | ⟨h1, h2, h3⟩, h5, h6⟩
  · omega
  · exact ⟨h1.symm, by omega, by omega⟩
theorem AbsOf.neg0 {s n S N : Int} {neg : Bool} (h : AbsOf s n S N neg) (p : s < 0) (p2 : 0 ≤ -n) (a0 : 0 ≤ n) : true = neg ∧ -n = N ∧ -s = S := by
  rcases h with ⟨⟨h1, h2, h3, h4⟩ | ⟨h1, h2, h3⟩, h5, h6⟩
  · omega
  · exact ⟨h1.symm, by omega, by omega⟩
theorem cut_eq {b c : Bool} {x y X Y : Int} {W : World} (h : b = c ∧ x = X ∧ y = Y) : Value.bool b = Value.bool c ∧ Value.int .i32 x = Value.int .i32 X ∧ Value.int .i64 y = Value.int .i64 Y ∧ W = W := by
  obtain ⟨rfl, rfl, rfl⟩ := h
  exact ⟨rfl, rfl, rfl, rfl⟩

/-- How the remainder of the absolute value gives that of the instant. -/
def Turn (neg : Bool) (m d r : Int) : Prop := (neg = false ∧ r = m) ∨ (neg = true ∧ m = 0 ∧ r = m) ∨ (neg = true ∧ m ≠ 0 ∧ r = d - m)

set_option maxRecDepth 100000 in
set_option maxHeartbeats 4000000 in
theorem div_small (s n d S N r : Int) (neg : Bool) (w : World) (a0 : 0 ≤ n) (a1 : n < 1000000000) (g0 : -4000000000000000001 ≤ s) (g1 : s ≤ 4000000000000000000)
    (hS : Hid (AbsOf s n S N neg)) (c0 : 0 ≤ N) (c1 : N < 1000000000) (e0 : 0 ≤ S) (e1 : S ≤ 4000000000000000001)
    (d0 : 1 ≤ d) (d1 : d < 1000000000) (k : (1000000000 % (d + d) == 0) = true) (m q : Int) (hm : N % d = m) (hq : N / d = q) (m0 : 0 ≤ m) (m1 : m < d) (q0 : 0 ≤ q) (q1 : q < 1000000000)
    (hr : Turn neg m d r) :
    Calls Try.prog 40 #[.agg #[.int .u64 n, .int .i64 s, .pointer none], .int .i64 d] w (DivRet r w) := by
  rcases hr with ⟨rfl, rfl⟩ | ⟨rfl, rfl, rfl⟩ | ⟨rfl, hm', rfl⟩
  · go_enter Try.func40, Try.ntmps40
    go_wp2_with fail
    refine (nsec_any _ 0 n _ ?_ a0 a1).mono ?_
    · simp
    rintro e w' ⟨rfl, rfl⟩
    go_wp2_with fail
    refine (sec_any _ 0 s n _ ?_ ?_ a0 a1).mono ?_
    · simp
    · simp
    rintro e w' ⟨rfl, rfl⟩
    go_upto_if 20 with fail
    go_cut [6, 7, 8] (fun s6 s7 s8 wx => s6 = .bool false ∧ s7 = .int .i32 N ∧ s8 = .int .i64 S ∧ wx = w.alloc (.cells #[.int .u64 n, .int .i64 s, .pointer none] 36))
    case first =>
      by_cases p : s < 0
      · by_cases p2 : -n < 0
        · go_wp2_with fail
          go_meet
          exact cut_eq (hS.out.neg1 p p2 a1)
        · go_wp2_with fail
          go_meet
          exact cut_eq (hS.out.neg0 p p2 a0)
      · go_wp2_with fail
        go_meet
        exact cut_eq (hS.out.pos p)
    case rest =>
      obtain ⟨rfl, rfl, rfl, rfl⟩ := hcut
      go_wp2
      go_ret2
      exact ⟨_, rfl, (Below.refl _ _).alloc (Nat.le_refl _) _⟩
  · go_enter Try.func40, Try.ntmps40
    go_wp2_with fail
    refine (nsec_any _ 0 n _ ?_ a0 a1).mono ?_
    · simp
    rintro e w' ⟨rfl, rfl⟩
    go_wp2_with fail
    refine (sec_any _ 0 s n _ ?_ ?_ a0 a1).mono ?_
    · simp
    · simp
    rintro e w' ⟨rfl, rfl⟩
    go_upto_if 20 with fail
    go_cut [6, 7, 8] (fun s6 s7 s8 wx => s6 = .bool true ∧ s7 = .int .i32 N ∧ s8 = .int .i64 S ∧ wx = w.alloc (.cells #[.int .u64 n, .int .i64 s, .pointer none] 36))
    case first =>
      by_cases p : s < 0
      · by_cases p2 : -n < 0
        · go_wp2_with fail
          go_meet
          exact cut_eq (hS.out.neg1 p p2 a1)
        · go_wp2_with fail
          go_meet
          exact cut_eq (hS.out.neg0 p p2 a0)
      · go_wp2_with fail
        go_meet
        exact cut_eq (hS.out.pos p)
    case rest =>
      obtain ⟨rfl, rfl, rfl, rfl⟩ := hcut
      go_wp2
      go_ret2
      exact ⟨_, rfl, (Below.refl _ _).alloc (Nat.le_refl _) _⟩
  · have m2 : (m != 0) = true := by simpa using hm'
    clear hm'
    go_enter Try.func40, Try.ntmps40
    go_wp2_with fail
    refine (nsec_any _ 0 n _ ?_ a0 a1).mono ?_
    · simp
    rintro e w' ⟨rfl, rfl⟩
    go_wp2_with fail
    refine (sec_any _ 0 s n _ ?_ ?_ a0 a1).mono ?_
    · simp
    · simp
    rintro e w' ⟨rfl, rfl⟩
    go_upto_if 20 with fail
    go_cut [6, 7, 8] (fun s6 s7 s8 wx => s6 = .bool true ∧ s7 = .int .i32 N ∧ s8 = .int .i64 S ∧ wx = w.alloc (.cells #[.int .u64 n, .int .i64 s, .pointer none] 36))
    case first =>
      by_cases p : s < 0
      · by_cases p2 : -n < 0
        · go_wp2_with fail
          go_meet
          exact cut_eq (hS.out.neg1 p p2 a1)
        · go_wp2_with fail
          go_meet
          exact cut_eq (hS.out.neg0 p p2 a0)
      · go_wp2_with fail
        go_meet
        exact cut_eq (hS.out.pos p)
    case rest =>
      obtain ⟨rfl, rfl, rfl, rfl⟩ := hcut
      go_wp2
      go_ret2
      exact ⟨_, rfl, (Below.refl _ _).alloc (Nat.le_refl _) _⟩

set_option maxRecDepth 100000 in
set_option maxHeartbeats 4000000 in
theorem div_whole (s n d S N r : Int) (neg : Bool) (w : World) (a0 : 0 ≤ n) (a1 : n < 1000000000) (g0 : -4000000000000000001 ≤ s) (g1 : s ≤ 4000000000000000000)
    (hS : Hid (AbsOf s n S N neg)) (c0 : 0 ≤ N) (c1 : N < 1000000000) (e0 : 0 ≤ S) (e1 : S ≤ 4000000000000000001)
    (d0 : 1 ≤ d) (d1 : d ≤ 9223372036854775807) (k : (d % 1000000000 == 0) = true) (k0 : 1000000000 ≤ d) (D m q : Int) (hD : d / 1000000000 = D) (D0 : 1 ≤ D) (D1 : D ≤ 9223372036) (hm : S % D = m) (hq : S / D = q) (m0 : 0 ≤ m) (m1 : m < D) (q0 : 0 ≤ q) (q1 : q ≤ 4000000000000000001)
    (hr : Turn neg (m * 1000000000 + N) d r) :
    Calls Try.prog 40 #[.agg #[.int .u64 n, .int .i64 s, .pointer none], .int .i64 d] w (DivRet r w) := by
  rcases hr with ⟨rfl, rfl⟩ | ⟨rfl, hz, rfl⟩ | ⟨rfl, hz, rfl⟩
  · go_enter Try.func40, Try.ntmps40
    go_wp2_with fail
    refine (nsec_any _ 0 n _ ?_ a0 a1).mono ?_
    · simp
    rintro e w' ⟨rfl, rfl⟩
    go_wp2_with fail
    refine (sec_any _ 0 s n _ ?_ ?_ a0 a1).mono ?_
    · simp
    · simp
    rintro e w' ⟨rfl, rfl⟩
    go_upto_if 20 with fail
    go_cut [6, 7, 8] (fun s6 s7 s8 wx => s6 = .bool false ∧ s7 = .int .i32 N ∧ s8 = .int .i64 S ∧ wx = w.alloc (.cells #[.int .u64 n, .int .i64 s, .pointer none] 36))
    case first =>
      by_cases p : s < 0
      · by_cases p2 : -n < 0
        · go_wp2_with fail
          go_meet
          exact cut_eq (hS.out.neg1 p p2 a1)
        · go_wp2_with fail
          go_meet
          exact cut_eq (hS.out.neg0 p p2 a0)
      · go_wp2_with fail
        go_meet
        exact cut_eq (hS.out.pos p)
    case rest =>
      obtain ⟨rfl, rfl, rfl, rfl⟩ := hcut
      go_wp2
      go_ret2
      exact ⟨_, rfl, (Below.refl _ _).alloc (Nat.le_refl _) _⟩
  · have m2 : (m * 1000000000 + N != 0) = false := by simpa using hz
    clear hz
    go_enter Try.func40, Try.ntmps40
    go_wp2_with fail
    refine (nsec_any _ 0 n _ ?_ a0 a1).mono ?_
    · simp
    rintro e w' ⟨rfl, rfl⟩
    go_wp2_with fail
    refine (sec_any _ 0 s n _ ?_ ?_ a0 a1).mono ?_
    · simp
    · simp
    rintro e w' ⟨rfl, rfl⟩
    go_upto_if 20 with fail
    go_cut [6, 7, 8] (fun s6 s7 s8 wx => s6 = .bool true ∧ s7 = .int .i32 N ∧ s8 = .int .i64 S ∧ wx = w.alloc (.cells #[.int .u64 n, .int .i64 s, .pointer none] 36))
    case first =>
      by_cases p : s < 0
      · by_cases p2 : -n < 0
        · go_wp2_with fail
          go_meet
          exact cut_eq (hS.out.neg1 p p2 a1)
        · go_wp2_with fail
          go_meet
          exact cut_eq (hS.out.neg0 p p2 a0)
      · go_wp2_with fail
        go_meet
        exact cut_eq (hS.out.pos p)
    case rest =>
      obtain ⟨rfl, rfl, rfl, rfl⟩ := hcut
      go_wp2
      go_ret2
      exact ⟨_, rfl, (Below.refl _ _).alloc (Nat.le_refl _) _⟩
  · have m2 : (m * 1000000000 + N != 0) = true := by simpa using hz
    have m3 : m * 1000000000 + N ≤ d := by omega
    clear hz
    go_enter Try.func40, Try.ntmps40
    go_wp2_with fail
    refine (nsec_any _ 0 n _ ?_ a0 a1).mono ?_
    · simp
    rintro e w' ⟨rfl, rfl⟩
    go_wp2_with fail
    refine (sec_any _ 0 s n _ ?_ ?_ a0 a1).mono ?_
    · simp
    · simp
    rintro e w' ⟨rfl, rfl⟩
    go_upto_if 20 with fail
    go_cut [6, 7, 8] (fun s6 s7 s8 wx => s6 = .bool true ∧ s7 = .int .i32 N ∧ s8 = .int .i64 S ∧ wx = w.alloc (.cells #[.int .u64 n, .int .i64 s, .pointer none] 36))
    case first =>
      by_cases p : s < 0
      · by_cases p2 : -n < 0
        · go_wp2_with fail
          go_meet
          exact cut_eq (hS.out.neg1 p p2 a1)
        · go_wp2_with fail
          go_meet
          exact cut_eq (hS.out.neg0 p p2 a0)
      · go_wp2_with fail
        go_meet
        exact cut_eq (hS.out.pos p)
    case rest =>
      obtain ⟨rfl, rfl, rfl, rfl⟩ := hcut
      go_wp2
      go_ret2
      exact ⟨_, rfl, (Below.refl _ _).alloc (Nat.le_refl _) _⟩

end Go.Proofs.Ytmdhpkhmmnmdlaa
