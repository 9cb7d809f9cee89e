/-
  The thin package's AddAll, at lists of at most 4194304 durations.
-/
import Derived.Test.YtgcbgoninaobjaaApi
import Derived.Test.YtgcbgoninaobjaaSum
import Derived.StillTailTactics
namespace Go.Proofs.Ytgcbgoninaobjaa
open Go.RowKit

set_option maxHeartbeats 1000000 in
theorem addAll_row (xs : List Int) (b o cap : Nat) (f r : Int) (w : World) (hw : b < w.heap.size) (hc : ∀ i, i < xs.length → w.cell? ⟨b, o + i, none⟩ = some (.int .i64 (xs.getD i 0)))
    (hl : xs.length ≤ 4194304) (hx : ∀ x ∈ xs, Plain.I64 x) (hf : f = Plain.cl (Plain.tot xs)) (hr : r = Plain.p2 (Plain.tot xs)) :
    Calls Try.prog 22 #[.slice (some ⟨b, o, none⟩) xs.length cap] w fun e w' => e = .returned (.tuple #[.int .i64 f, .int .i64 r]) ∧ Below w.heap.size w w' := by
  have F := Lib.hid hf
  have R := Lib.hid hr
  clear hf hr
  have C := Lib.hid hc
  have X := Lib.hid hx
  clear hc hx
  go_enter Try.func22, Try.ntmps22
  go_wp2
  go_loopw [10] (fun i wr => ∃ (k : Nat) (s n : Int), k ≤ xs.length ∧ i = .int .i64 k ∧ Plain.At (Plain.tot (xs.take k)) s n ∧ (wr.cell? ⟨w.heap.size, 0, none⟩ = some (.int .u64 n) ∧ wr.cell? ⟨w.heap.size, 1, none⟩ = some (.int .i64 s) ∧ wr.cell? ⟨w.heap.size, 2, none⟩ = some (.pointer none)) ∧ (wr.frozen? ⟨w.heap.size, 0, none⟩ = false ∧ wr.frozen? ⟨w.heap.size, 1, none⟩ = false ∧ wr.frozen? ⟨w.heap.size, 2, none⟩ = false) ∧ w.heap.size < wr.heap.size ∧ Below w.heap.size w wr)
    (fun i _ => xs.length - (intOf i).toNat)
  case atStart => exact ⟨0, 0, 0, Nat.zero_le _, rfl, Plain.at_zero, ⟨by simp, by simp, by simp⟩, ⟨by simp, by simp, by simp⟩, by simp, (Below.refl _ _).alloc (Nat.le_refl _) _⟩
  case round =>
    obtain ⟨k, s, n, hk, rfl, ha, ⟨q0, q1, q2⟩, ⟨z0, z1, z2⟩, hlt, hB⟩ := hrel
    by_cases hlen : k < xs.length
    · obtain ⟨x, hxk⟩ : ∃ x, x = xs.getD k 0 := ⟨_, rfl⟩
      have hcell : wr.cell? ⟨b, o + k, none⟩ = some (.int .i64 x) := hxk ▸ (hB.cell (p := ⟨b, o + k, none⟩) hw).trans (C.out k hlen)
      have ix : Plain.I64 x := hxk ▸ Plain.i64_getD xs k X.out
      have ft := Plain.far_take xs k X.out hl
      obtain ⟨t, ht⟩ : ∃ t, t = Plain.tot (xs.take k) := ⟨_, rfl⟩
      have T := Lib.hid (show Plain.tot (xs.take (k + 1)) = t + x by rw [ht, hxk]; exact Plain.tot_take_succ xs k hlen)
      rw [← ht] at ha ft
      clear hxk ht
      obtain ⟨s', n', ha'⟩ := Plain.at_ex (t + x)
      go_wp2_with fail
      refine (add_any t x s n s' n' _ ft ix ha ha').mono ?_
      rintro e w1 ⟨rfl, hb1⟩
      have hb1' : Below wr.heap.size wr w1 := hb1
      have c0 : w1.cell? ⟨w.heap.size, 0, none⟩ = some (.int .u64 n) := (hb1'.cell (p := ⟨w.heap.size, 0, none⟩) hlt).trans q0
      have c1 : w1.cell? ⟨w.heap.size, 1, none⟩ = some (.int .i64 s) := (hb1'.cell (p := ⟨w.heap.size, 1, none⟩) hlt).trans q1
      have c2 : w1.cell? ⟨w.heap.size, 2, none⟩ = some (.pointer none) := (hb1'.cell (p := ⟨w.heap.size, 2, none⟩) hlt).trans q2
      have y0 : w1.frozen? ⟨w.heap.size, 0, none⟩ = false := (hb1'.frozen (p := ⟨w.heap.size, 0, none⟩) hlt).trans z0
      have y1 : w1.frozen? ⟨w.heap.size, 1, none⟩ = false := (hb1'.frozen (p := ⟨w.heap.size, 1, none⟩) hlt).trans z1
      have y2 : w1.frozen? ⟨w.heap.size, 2, none⟩ = false := (hb1'.frozen (p := ⟨w.heap.size, 2, none⟩) hlt).trans z2
      have hlt1 : w.heap.size < w1.heap.size := Nat.lt_of_lt_of_le hlt hb1'.size
      have hB1 : Below w.heap.size w w1 := hB.trans (hb1'.mono (Nat.le_of_lt hlt))
      clear hb1 hb1' q0 q1 q2 z0 z1 z2 hlt hB hcell ft ix ha
      go_wp2
      go_roundw
      case rel => exact ⟨k + 1, s', n', by omega, by go_num, by rw [T.out]; exact ha', put3 _ _ _ c0 c1 c2, ⟨by simpa using y0, by simpa using y1, by simpa using y2⟩, by simpa using hlt1, ((hB1.setCell (Nat.le_refl _) _).setCell (Nat.le_refl _) _).setCell (Nat.le_refl _) _⟩
      case measure => simp [intOf]; omega
    · obtain rfl : k = xs.length := by omega
      rw [List.take_length] at ha
      have ft := Plain.far_tot xs X.out hl
      go_wp2_with (go_at_call 33; refine (parts_any (Plain.tot xs) s n f r _ ha ft F.out R.out).mono ?_; rintro e w1 ⟨rfl, hb1⟩)
      go_ret2
      exact ⟨rfl, hB.trans (hb1.mono (Nat.le_of_lt hlt))⟩

set_option maxHeartbeats 1000000 in
theorem addAll_nil (a : Option Addr) (cap : Nat) (w : World) :
    Calls Try.prog 22 #[.slice a 0 cap] w fun e w' => e = .returned (.tuple #[.int .i64 0, .int .i64 0]) ∧ Below w.heap.size w w' := by
  go_enter Try.func22, Try.ntmps22
  go_wp2
  refine wp_loop_rounds 1 ?_
  rw [rounds_succ]
  go_wp2_with (go_at_call 33; refine (parts_any 0 0 0 0 0 _ Plain.at_zero Plain.far_zero (by decide) (by decide)).mono ?_; rintro e w1 ⟨rfl, hb1⟩)
  go_ret2
  exact ⟨rfl, ((Below.refl _ w).alloc (Nat.le_refl _) _).trans (hb1.mono (by simp))⟩

theorem addAll_any (xs : List Int) (a : Option Addr) (cap : Nat) (f r : Int) (w : World) (h : Held w a xs)
    (hl : xs.length ≤ 4194304) (hx : ∀ x ∈ xs, Plain.I64 x) (hf : f = Plain.cl (Plain.tot xs)) (hr : r = Plain.p2 (Plain.tot xs)) :
    Calls Try.prog 22 #[.slice a xs.length cap] w fun e w' => e = .returned (.tuple #[.int .i64 f, .int .i64 r]) ∧ Below w.heap.size w w' := by
  rcases h with rfl | ⟨b, o, rfl, hw, hc⟩
  · have e1 : f = 0 := hf
    have e2 : r = 0 := hr
    subst e1 e2
    exact addAll_nil a cap w
  · exact addAll_row xs b o cap f r w hw hc hl hx hf hr

theorem addAll_three (x y z f r : Int) (b : Nat) (w : World) (hw : b < w.heap.size) (c0 : w.cell? ⟨b, 0, none⟩ = some (.int .i64 x)) (c1 : w.cell? ⟨b, 1, none⟩ = some (.int .i64 y)) (c2 : w.cell? ⟨b, 2, none⟩ = some (.int .i64 z))
    (hx : Plain.I64 x) (hy : Plain.I64 y) (hz : Plain.I64 z) (hf : f = Plain.cl (x + y + z)) (hr : r = Plain.p2 (x + y + z)) :
    Calls Try.prog 22 #[.slice (some ⟨b, 0, none⟩) 3 3] w fun e w' => e = .returned (.tuple #[.int .i64 f, .int .i64 r]) ∧ Below w.heap.size w w' := by
  have e : Plain.tot [x, y, z] = x + y + z := by simp only [Plain.tot]; omega
  refine addAll_row [x, y, z] b 0 3 f r w hw ?_ (by simp) ?_ (by rw [e]; exact hf) (by rw [e]; exact hr)
  · intro i hi
    match i, hi with
    | 0, _ => exact c0
    | 1, _ => exact c1
    | 2, _ => exact c2
  · intro u hu
    simp only [List.mem_cons, List.not_mem_nil, or_false] at hu
    rcases hu with rfl | rfl | rfl
    · exact hx
    · exact hy
    · exact hz

end Go.Proofs.Ytgcbgoninaobjaa
