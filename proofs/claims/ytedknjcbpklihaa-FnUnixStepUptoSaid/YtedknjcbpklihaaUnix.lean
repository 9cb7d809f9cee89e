/-
  UnixOf of the thin package and Unix of the reference, at lists of at most 4194304 durations.
-/
import Derived.Test.YtedknjcbpklihaaApi
import Derived.Test.YtedknjcbpklihaaListS
namespace Go.Proofs.Ytedknjcbpklihaa
open Go.RowKit
set_option linter.unusedVariables false

/-- The nanoseconds since 1970, as a number of 64 bits. -/
def Plain.un (z : Int) : Int := (z - 62135596800000000000 + 9223372036854775808) % 18446744073709551616 - 9223372036854775808
theorem Plain.un_in {z : Int} (h : Plain.I64 (z - 62135596800000000000)) : Plain.un z = z - 62135596800000000000 := by unfold Plain.un; unfold Plain.I64 at h; omega
theorem Plain.I64_of_cl {d z : Int} (h : d = Plain.cl z) : Plain.I64 d := by rw [h]; exact Plain.cl_i64 z
theorem Plain.at_unix : Plain.At 62135596800000000000 62135596800 0 := by unfold Plain.At; omega
theorem Plain.far_unix : Plain.Far 62135596800000000000 := by unfold Plain.Far; omega

set_option maxHeartbeats 1000000 in
theorem unixNano_core (s n u : Int) (w : World) (a0 : 0 ≤ n) (a1 : n < 1000000000) (g0 : -4000000000000000001 ≤ s) (g1 : s ≤ 4000000000000000000) (hu : Hid (wrap64 (wrap64 ((s + -62135596800) * 1000000000) + n) = u)) :
    Calls Try.prog 33 #[.agg #[.int .u64 n, .int .i64 s, .pointer none]] w fun e w' => e = .returned (.int .i64 u) ∧ Below w.heap.size w w' := by
  have b2 := Bits.mono n a0 a1
  have b4 := Bits.mask n a0 a1
  go_enter Try.func33, Try.ntmps33
  go_wp2
  go_ret
  exact ⟨Sp.ret_int hu.out, (Below.refl _ _).alloc (Nat.le_refl _) _⟩

theorem unixNano_any (z s n u : Int) (w : World) (h : Plain.At z s n) (f : Plain.Far z) (hu : u = Plain.un z) :
    Calls Try.prog 33 #[.agg #[.int .u64 n, .int .i64 s, .pointer none]] w fun e w' => e = .returned (.int .i64 u) ∧ Below w.heap.size w w' := by
  have g := Plain.far_sec h f
  refine unixNano_core s n u w h.2.1 h.2.2 g.1 g.2 (Lib.hid ?_)
  obtain ⟨e, _, _⟩ := h
  rw [hu]
  unfold Plain.un wrap64
  omega

set_option maxHeartbeats 1000000 in
theorem unixOf_row (xs : List Int) (b o cap : Nat) (u : Int) (w : World) (hw : b < w.heap.size) (hc : ∀ i, i < xs.length → w.cell? ⟨b, o + i, none⟩ = some (.int .i64 (xs.getD i 0)))
    (hl : xs.length ≤ 4194304) (hx : ∀ x ∈ xs, Plain.I64 x) (hu : u = Plain.un (Plain.tot xs)) :
    Calls Try.prog 16 #[.slice (some ⟨b, o, none⟩) xs.length cap] w fun e w' => e = .returned (.int .i64 u) ∧ Below w.heap.size w w' := by
  have U := Lib.hid hu
  clear hu
  have C := Lib.hid hc
  have X := Lib.hid hx
  clear hc hx
  go_enter Try.func16, Try.ntmps16
  go_wp2
  go_loopw [8] (fun i wr => ∃ (k : Nat) (s n : Int), k ≤ xs.length ∧ i = .int .i64 k ∧ Plain.At (Plain.tot (xs.take k)) s n ∧ (wr.cell? ⟨w.heap.size, 0, none⟩ = some (.int .u64 n) ∧ wr.cell? ⟨w.heap.size, 1, none⟩ = some (.int .i64 s) ∧ wr.cell? ⟨w.heap.size, 2, none⟩ = some (.pointer none)) ∧ (wr.frozen? ⟨w.heap.size, 0, none⟩ = false ∧ wr.frozen? ⟨w.heap.size, 1, none⟩ = false ∧ wr.frozen? ⟨w.heap.size, 2, none⟩ = false) ∧ w.heap.size < wr.heap.size ∧ Below w.heap.size w wr)
    (fun i _ => xs.length - (intOf i).toNat)
  case atStart => exact ⟨0, 0, 0, Nat.zero_le _, rfl, Plain.at_zero, ⟨by simp, by simp, by simp⟩, ⟨by simp, by simp, by simp⟩, by simp, (Below.refl _ _).alloc (Nat.le_refl _) _⟩
  case round =>
    obtain ⟨k, s, n, hk, rfl, ha, ⟨q0, q1, q2⟩, ⟨z0, z1, z2⟩, hlt, hB⟩ := hrel
    by_cases hlen : k < xs.length
    · obtain ⟨x, hxk⟩ : ∃ x, x = xs.getD k 0 := ⟨_, rfl⟩
      have hcell : wr.cell? ⟨b, o + k, none⟩ = some (.int .i64 x) := hxk ▸ (hB.cell (p := ⟨b, o + k, none⟩) hw).trans (C.out k hlen)
      have ix : Plain.I64 x := hxk ▸ Plain.i64_getD xs k X.out
      have ft := Plain.far_take xs k X.out hl
      obtain ⟨t, ht⟩ : ∃ t, t = Plain.tot (xs.take k) := ⟨_, rfl⟩
      have T := Lib.hid (show Plain.tot (xs.take (k + 1)) = t + x by rw [ht, hxk]; exact Plain.tot_take_succ xs k hlen)
      rw [← ht] at ha ft
      clear hxk ht
      obtain ⟨s', n', ha'⟩ := Plain.at_ex (t + x)
      go_wp2
      go_still_tail 5, (by kernel_rfl)
      go_wp2_with fail
      refine (add_any t x s n s' n' _ ft ix ha ha').mono ?_
      rintro e w1 ⟨rfl, hb1⟩
      have hb1' : Below wr.heap.size wr w1 := ((Below.refl wr.heap.size wr).drew).trans (show Below wr.heap.size wr.drew w1 from hb1)
      have c0 : w1.cell? ⟨w.heap.size, 0, none⟩ = some (.int .u64 n) := (hb1'.cell (p := ⟨w.heap.size, 0, none⟩) hlt).trans q0
      have c1 : w1.cell? ⟨w.heap.size, 1, none⟩ = some (.int .i64 s) := (hb1'.cell (p := ⟨w.heap.size, 1, none⟩) hlt).trans q1
      have c2 : w1.cell? ⟨w.heap.size, 2, none⟩ = some (.pointer none) := (hb1'.cell (p := ⟨w.heap.size, 2, none⟩) hlt).trans q2
      have y0 : w1.frozen? ⟨w.heap.size, 0, none⟩ = false := (hb1'.frozen (p := ⟨w.heap.size, 0, none⟩) hlt).trans z0
      have y1 : w1.frozen? ⟨w.heap.size, 1, none⟩ = false := (hb1'.frozen (p := ⟨w.heap.size, 1, none⟩) hlt).trans z1
      have y2 : w1.frozen? ⟨w.heap.size, 2, none⟩ = false := (hb1'.frozen (p := ⟨w.heap.size, 2, none⟩) hlt).trans z2
      have hlt1 : w.heap.size < w1.heap.size := Nat.lt_of_lt_of_le hlt hb1'.size
      have hB1 : Below w.heap.size w w1 := hB.trans (hb1'.mono (Nat.le_of_lt hlt))
      clear hb1 hb1' q0 q1 q2 z0 z1 z2 hlt hB hcell ft ix ha
      go_wp2
      go_roundw
      case rel => exact ⟨k + 1, s', n', by omega, by go_num, by rw [T.out]; exact ha', put3 _ _ _ c0 c1 c2, ⟨by simpa using y0, by simpa using y1, by simpa using y2⟩, by simpa using hlt1, ((hB1.setCell (Nat.le_refl _) _).setCell (Nat.le_refl _) _).setCell (Nat.le_refl _) _⟩
      case measure => simp [intOf]; omega
    · obtain rfl : k = xs.length := by omega
      rw [List.take_length] at ha
      have ft := Plain.far_tot xs X.out hl
      go_wp2_with (go_at_call 33; refine (unixNano_any (Plain.tot xs) s n u _ ha ft U.out).mono ?_; rintro e w1 ⟨rfl, hb1⟩)
      go_ret
      exact ⟨rfl, hB.trans (hb1.mono (Nat.le_of_lt hlt))⟩

set_option maxHeartbeats 1000000 in
theorem unixOf_nil (a : Option Addr) (cap : Nat) (w : World) :
    Calls Try.prog 16 #[.slice a 0 cap] w fun e w' => e = .returned (.int .i64 (Plain.un 0)) ∧ Below w.heap.size w w' := by
  go_enter Try.func16, Try.ntmps16
  go_wp2
  refine wp_loop_rounds 1 ?_
  rw [rounds_succ]
  go_wp2_with (go_at_call 33; refine (unixNano_any 0 0 0 (Plain.un 0) _ Plain.at_zero Plain.far_zero rfl).mono ?_; rintro e w1 ⟨rfl, hb1⟩)
  go_ret
  exact ⟨rfl, ((Below.refl _ w).alloc (Nat.le_refl _) _).trans (hb1.mono (by simp))⟩

theorem unixOf_any (xs : List Int) (a : Option Addr) (cap : Nat) (u : Int) (w : World) (h : Held w a xs)
    (hl : xs.length ≤ 4194304) (hx : ∀ x ∈ xs, Plain.I64 x) (hu : u = Plain.un (Plain.tot xs)) :
    Calls Try.prog 16 #[.slice a xs.length cap] w fun e w' => e = .returned (.int .i64 u) ∧ Below w.heap.size w w' := by
  rcases h with rfl | ⟨b, o, rfl, hw, hc⟩
  · have e1 : u = Plain.un 0 := hu
    subst e1
    exact unixOf_nil a cap w
  · exact unixOf_row xs b o cap u w hw hc hl hx hu

end Go.Proofs.Ytedknjcbpklihaa

namespace Go.Proofs.Ytedknjcbpklihaa.Sp
open Go.RowKit

set_option maxHeartbeats 2000000 in
theorem unix_row (xs : List Int) (b o cap : Nat) (d : Int) (ok : Bool) (w : World) (hw : b < w.heap.size) (hc : ∀ i, i < xs.length → w.cell? ⟨b, o + i, none⟩ = some (.int .i64 (xs.getD i 0)))
    (hl : xs.length ≤ 4194304) (hx : ∀ x ∈ xs, Plain.I64 x) (hd : d = Plain.cl (Plain.tot xs - 62135596800000000000)) (hok : ok = decide (62135596800000000000 + d = Plain.tot xs)) :
    Calls Try.prog 15 #[.slice (some ⟨b, o, none⟩) xs.length cap] w fun e w' => e = .returned (.tuple #[.int .i64 d, .bool ok]) ∧ Below w.heap.size w w' := by
  have D := Lib.hid hd
  have OK := Lib.hid hok
  clear hd hok
  have C := Lib.hid hc
  have X := Lib.hid hx
  clear hc hx
  go_enter Try.func15, Try.ntmps15
  go_wp2
  go_loopw [5] (fun i wr => ∃ (k : Nat) (s n : Int), k ≤ xs.length ∧ i = .int .i64 k ∧ Plain.At (Plain.tot (xs.take k)) s n ∧ wr.cell? ⟨w.heap.size, 0, none⟩ = some (.int .i64 s) ∧ wr.cell? ⟨w.heap.size, 1, none⟩ = some (.int .i64 n) ∧ wr.frozen? ⟨w.heap.size, 0, none⟩ = false ∧ wr.frozen? ⟨w.heap.size, 1, none⟩ = false ∧ w.heap.size < wr.heap.size ∧ Below w.heap.size w wr)
    (fun i _ => xs.length - (intOf i).toNat)
  case atStart => exact ⟨0, 0, 0, Nat.zero_le _, rfl, Plain.at_zero, by simp, by simp, by simp, by simp, by simp, (Below.refl _ _).alloc (Nat.le_refl _) _⟩
  case round =>
    obtain ⟨k, s, n, hk, rfl, ha, q0, q1, z0, z1, hlt, hB⟩ := hrel
    by_cases hlen : k < xs.length
    · obtain ⟨x, hxk⟩ : ∃ x, x = xs.getD k 0 := ⟨_, rfl⟩
      have hcell : wr.cell? ⟨b, o + k, none⟩ = some (.int .i64 x) := hxk ▸ (hB.cell (p := ⟨b, o + k, none⟩) hw).trans (C.out k hlen)
      have ix : Plain.I64 x := hxk ▸ Plain.i64_getD xs k X.out
      have ft := Plain.far_take xs k X.out hl
      obtain ⟨t, ht⟩ : ∃ t, t = Plain.tot (xs.take k) := ⟨_, rfl⟩
      have T := Lib.hid (show Plain.tot (xs.take (k + 1)) = t + x by rw [ht, hxk]; exact Plain.tot_take_succ xs k hlen)
      rw [← ht] at ha ft
      clear hxk ht
      obtain ⟨s', n', ha'⟩ := Plain.at_ex (t + x)
      go_wp2
      go_still_tail 5, (by kernel_rfl)
      go_wp2_with fail
      refine (plus_any t x s n s' n' _ ft ix ha ha').mono ?_
      rintro e w1 ⟨rfl, hb1⟩
      have hb1' : Below wr.heap.size wr w1 := ((Below.refl wr.heap.size wr).drew).trans (show Below wr.heap.size wr.drew w1 from hb1)
      have c0 : w1.cell? ⟨w.heap.size, 0, none⟩ = some (.int .i64 s) := (hb1'.cell (p := ⟨w.heap.size, 0, none⟩) hlt).trans q0
      have c1 : w1.cell? ⟨w.heap.size, 1, none⟩ = some (.int .i64 n) := (hb1'.cell (p := ⟨w.heap.size, 1, none⟩) hlt).trans q1
      have y0 : w1.frozen? ⟨w.heap.size, 0, none⟩ = false := (hb1'.frozen (p := ⟨w.heap.size, 0, none⟩) hlt).trans z0
      have y1 : w1.frozen? ⟨w.heap.size, 1, none⟩ = false := (hb1'.frozen (p := ⟨w.heap.size, 1, none⟩) hlt).trans z1
      have hlt1 : w.heap.size < w1.heap.size := Nat.lt_of_lt_of_le hlt hb1'.size
      have hB1 : Below w.heap.size w w1 := hB.trans (hb1'.mono (Nat.le_of_lt hlt))
      clear hb1 hb1' q0 q1 z0 z1 hlt hB hcell ft ix ha
      go_wp2
      go_roundw
      case rel => exact ⟨k + 1, s', n', by omega, by go_num, by rw [T.out]; exact ha', (put2 _ _ c0 c1).1, (put2 _ _ c0 c1).2, by simpa using y0, by simpa using y1, by simpa using hlt1, (hB1.setCell (Nat.le_refl _) _).setCell (Nat.le_refl _) _⟩
      case measure => simp [intOf]; omega
    · obtain rfl : k = xs.length := by omega
      rw [List.take_length] at ha
      obtain ⟨t, ht⟩ : ∃ t, t = Plain.tot xs := ⟨_, rfl⟩
      have ft : Plain.Far t := ht ▸ Plain.far_tot xs X.out hl
      rw [← ht] at ha D OK
      clear ht
      have id : Plain.I64 d := Plain.I64_of_cl D.out
      obtain ⟨s3, n3, h3⟩ := Plain.at_ex (62135596800000000000 + d)
      go_upto_region 7 with (go_at_call 31; refine (minus_any t 62135596800000000000 s n 62135596800 0 d _ ha Plain.at_unix ft Plain.far_unix D.out).mono ?_; rintro e w1 ⟨rfl, hb1⟩)
      have c0 : w1.cell? ⟨w.heap.size, 0, none⟩ = some (.int .i64 s) := (hb1.cell (p := ⟨w.heap.size, 0, none⟩) hlt).trans q0
      have c1 : w1.cell? ⟨w.heap.size, 1, none⟩ = some (.int .i64 n) := (hb1.cell (p := ⟨w.heap.size, 1, none⟩) hlt).trans q1
      have hlt1 : w.heap.size < w1.heap.size := Nat.lt_of_lt_of_le hlt hb1.size
      have hB1 : Below w.heap.size w w1 := hB.trans (hb1.mono (Nat.le_of_lt hlt))
      clear hb1 q0 q1 z0 z1 hlt hB
      by_cases c : 62135596800000000000 + d = t
      · have h3' : Plain.At t s3 n3 := c ▸ h3
        obtain ⟨rfl, rfl⟩ := Plain.at_uniq ha h3'
        obtain rfl : ok = true := by rw [OK.out]; simpa using c
        clear c h3'
        go_region_held3 (fun w' => w'.cell? ⟨w.heap.size, 0, none⟩ = some (.int .i64 s) ∧ w'.cell? ⟨w.heap.size, 1, none⟩ = some (.int .i64 n)) (first | (simp [c0, c1]; done) | exact two_kept hb2 hlt1 ⟨c0, c1⟩) (first | (go_at_call 30; refine (plus_any 62135596800000000000 d 62135596800 0 _ _ _ Plain.far_unix id Plain.at_unix h3).mono ?_; rintro e w2 ⟨rfl, hb2⟩))
        go_wp2
        go_ret2
        exact ⟨rfl, hB1.drew.trans (hb2.mono (Nat.le_of_lt hlt1))⟩
      · obtain rfl : ok = false := by rw [OK.out]; simpa using c
        have e1 := ha.1
        have e2 := h3.1
        by_cases k1 : s3 = s
        · obtain rfl : s = s3 := k1.symm
          have k2 : (n3 == n) = false := by simp; omega
          clear c e1 e2 k1
          go_region_held3 (fun w' => w'.cell? ⟨w.heap.size, 0, none⟩ = some (.int .i64 s) ∧ w'.cell? ⟨w.heap.size, 1, none⟩ = some (.int .i64 n)) (first | (simp [c0, c1]; done) | exact two_kept hb2 hlt1 ⟨c0, c1⟩) (first | (go_at_call 30; refine (plus_any 62135596800000000000 d 62135596800 0 _ _ _ Plain.far_unix id Plain.at_unix h3).mono ?_; rintro e w2 ⟨rfl, hb2⟩))
          go_wp2
          go_ret2
          exact ⟨rfl, hB1.drew.trans (hb2.mono (Nat.le_of_lt hlt1))⟩
        · have k2 : (s3 == s) = false := by simpa using k1
          clear c e1 e2 k1
          go_region_held3 (fun w' => w'.cell? ⟨w.heap.size, 0, none⟩ = some (.int .i64 s) ∧ w'.cell? ⟨w.heap.size, 1, none⟩ = some (.int .i64 n)) (first | (simp [c0, c1]; done) | exact two_kept hb2 hlt1 ⟨c0, c1⟩) (first | (go_at_call 30; refine (plus_any 62135596800000000000 d 62135596800 0 _ _ _ Plain.far_unix id Plain.at_unix h3).mono ?_; rintro e w2 ⟨rfl, hb2⟩))
          go_wp2
          go_ret2
          exact ⟨rfl, hB1.drew.trans (hb2.mono (Nat.le_of_lt hlt1))⟩

set_option maxHeartbeats 1000000 in
theorem unix_nil (a : Option Addr) (cap : Nat) (w : World) :
    Calls Try.prog 15 #[.slice a 0 cap] w fun e w' => e = .returned (.tuple #[.int .i64 (-9223372036854775808), .bool false]) ∧ Below w.heap.size w w' := by
  have id : Plain.I64 (-9223372036854775808) := by unfold Plain.I64; omega
  obtain ⟨s3, n3, h3⟩ := Plain.at_ex (62135596800000000000 + -9223372036854775808)
  have e3 := h3.1
  have k2 : (s3 == 0) = false := by have := h3.2; simp; omega
  clear e3
  go_enter Try.func15, Try.ntmps15
  go_wp2
  refine wp_loop_rounds 1 ?_
  rw [rounds_succ]
  go_upto_region 7 with (go_at_call 31; refine (minus_any 0 62135596800000000000 0 0 62135596800 0 (-9223372036854775808) _ Plain.at_zero Plain.at_unix Plain.far_zero Plain.far_unix (by decide)).mono ?_; rintro e w1 ⟨rfl, hb1⟩)
  obtain ⟨c0, c1, _, _, hlt1, hB1⟩ := slot2 (show Below (w.heap.size + 1) _ w1 from by simpa using hb1)
  clear hb1
  go_region_held3 (fun w' => w'.cell? ⟨w.heap.size, 0, none⟩ = some (.int .i64 0) ∧ w'.cell? ⟨w.heap.size, 1, none⟩ = some (.int .i64 0)) (first | (simp [c0, c1]; done) | exact two_kept hb2 hlt1 ⟨c0, c1⟩) (first | (go_at_call 30; refine (plus_any 62135596800000000000 (-9223372036854775808) 62135596800 0 _ _ _ Plain.far_unix id Plain.at_unix h3).mono ?_; rintro e w2 ⟨rfl, hb2⟩))
  go_wp2
  go_ret2
  exact ⟨rfl, hB1.drew.trans (hb2.mono (Nat.le_of_lt hlt1))⟩

theorem unix_any (xs : List Int) (a : Option Addr) (cap : Nat) (d : Int) (ok : Bool) (w : World) (h : Held w a xs)
    (hl : xs.length ≤ 4194304) (hx : ∀ x ∈ xs, Plain.I64 x) (hd : d = Plain.cl (Plain.tot xs - 62135596800000000000)) (hok : ok = decide (62135596800000000000 + d = Plain.tot xs)) :
    Calls Try.prog 15 #[.slice a xs.length cap] w fun e w' => e = .returned (.tuple #[.int .i64 d, .bool ok]) ∧ Below w.heap.size w w' := by
  rcases h with rfl | ⟨b, o, rfl, hw, hc⟩
  · have e1 : d = -9223372036854775808 := by rw [hd]; decide
    subst e1
    have e2 : ok = false := by rw [hok]; decide
    subst e2
    exact unix_nil a cap w
  · exact unix_row xs b o cap d ok w hw hc hl hx hd hok

end Go.Proofs.Ytedknjcbpklihaa.Sp
