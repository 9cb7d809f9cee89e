/-
  The contracts of the reference's twice and rest.
-/
import Derived.Test.YtllhfhgjhchlbaaSpec
import Derived.Test.YtllhfhgjhchlbaaRestP
import Derived.Deep.DeepCutAuto
namespace Go.Proofs.Ytllhfhgjhchlbaa.Sp
open Go.RowKit
set_option linter.unusedVariables false

set_option maxHeartbeats 1000000 in
theorem twice_any (r m d y x : Int) (w : World) (r0 : 0 ≤ r) (r1 : r < d) (d1 : d ≤ 9223372036854775807) (m0 : 0 ≤ m) (m1 : m ≤ 1) (hy : (r + r) % d = y) (hx : (y + m) % d = x) (y0 : 0 ≤ y) (y1 : y < d) :
    Calls Try.prog 52 #[.int .u64 r, .int .u64 m, .int .u64 d] w fun e w' => e = .returned (.int .u64 x) ∧ w = w' := by
  have d0 : 1 ≤ d := by omega
  have X := Lib.hid hx
  clear hx
  go_enter Try.func52, Try.ntmps52
  go_wp2
  go_ret
  exact ⟨ret_int X.out, rfl⟩

set_option maxRecDepth 100000 in
set_option maxHeartbeats 2000000 in
theorem rest_core (s n d A R r z : Int) (w : World) (a0 : 0 ≤ n) (a1 : n < 1000000000) (g0 : -4000000000000000001 ≤ s) (g1 : s ≤ 4000000000000000000) (d0 : 1 ≤ d) (d1 : d ≤ 9223372036854775807)
    (hA : Hid ((0 ≤ s ∧ A = s) ∨ (s < 0 ∧ A = -s))) (A0 : 0 ≤ A) (A1 : A ≤ 4000000000000000001) (hR : Hid (R = s % d)) (R0 : 0 ≤ R) (R1 : R < d) (hz : Hid (s * 1000000000 + n = z)) (hr : Hid (r = z % d)) :
    Calls Try.prog 42 #[.agg #[.int .i64 s, .int .i64 n], .int .i64 d] w fun e w' => e = .returned (.int .i64 r) ∧ Below w.heap.size w w' := by
  go_enter Try.func42, Try.ntmps42
  go_upto_if 16 with fail
  go_cut [6] (fun v wx => v = .int .i64 A ∧ wx = w.alloc (.cells #[.int .i64 s, .int .i64 n] 33))
  case first =>
    rcases hA.out with ⟨p, e⟩ | ⟨p, e⟩
    · go_wp2_with fail
      go_meet
      exact ⟨by rw [e], rfl⟩
    · go_wp2_with fail
      go_meet
      exact ⟨by rw [e], rfl⟩
  case rest =>
    obtain ⟨rfl, rfl⟩ := hcut
    go_wp2
    go_loop [7, 8] (fun v7 v8 => ∃ (k : Nat) (x : Int), k ≤ 63 ∧ v8 = .int .i64 ((k : Int) - 1) ∧ v7 = .int .u64 x ∧ x = A / 2 ^ k % d) (fun _ v8 => (intOf v8 + 1).toNat)
    case atStart => exact ⟨63, 0, by omega, rfl, rfl, RestP.start63 A0 A1⟩
    case round =>
      obtain ⟨k, x, hk, rfl, rfl, hx⟩ := hrel
      have hxb := Plain.mod_bd (A / 2 ^ k) (d := d) (by omega)
      rw [← hx] at hxb
      obtain ⟨x0, x1⟩ := hxb
      by_cases hk0 : 1 ≤ k
      · obtain ⟨j, rfl⟩ : ∃ j, k = j + 1 := ⟨k - 1, by omega⟩
        obtain ⟨y, hy⟩ : ∃ y, A / 2 ^ j = y := ⟨_, rfl⟩
        have y0 : 0 ≤ y := by rw [← hy]; exact Int.ediv_nonneg A0 (Int.pow_nonneg (by omega))
        obtain ⟨b, hb⟩ : ∃ b, y % 2 = b := ⟨_, rfl⟩
        have b0 : 0 ≤ b := by omega
        have b1 : b ≤ 1 := by omega
        obtain ⟨t, ht⟩ : ∃ t, (x + x) % d = t := ⟨_, rfl⟩
        have htb := Plain.mod_bd (x + x) (d := d) (by omega)
        rw [ht] at htb
        obtain ⟨x', hx'⟩ : ∃ x', (t + b) % d = x' := ⟨_, rfl⟩
        have E := Lib.hid (show x' = A / 2 ^ j % d by rw [← hx', ← ht, ← hb, ← hy, hx]; exact RestP.step A d j)
        have T := Lib.hid ht
        have X := Lib.hid hx'
        clear ht hx' hx
        go_wp2_with fail
        refine (twice_any x b d t x' _ x0 x1 d1 b0 b1 T.out X.out htb.1 htb.2).mono ?_
        rintro e w' ⟨rfl, rfl⟩
        go_wp2
        go_round
        case rel => exact ⟨j, x', by omega, by go_num, rfl, E.out⟩
        case measure => simp [intOf]
      · obtain rfl : k = 0 := by omega
        have hx2 : x = A % d := by rw [hx, Int.pow_zero, Int.ediv_one]
        have X := Lib.hid hx2
        clear hx hx2 hk hk0
        go_upto_if 34 with fail
        go_cut [7] (fun v wx => v = .int .u64 R ∧ wx = w.alloc (.cells #[.int .i64 s, .int .i64 n] 33))
        case first =>
          by_cases p : s < 0
          · have e : -x % d = R := by
              have e2 : d - x = -x + d * 1 := by omega
              rw [← Int.add_mul_emod_self_left (-x) d 1, ← e2]
              rcases hA.out with ⟨q, e⟩ | ⟨q, e⟩
              · omega
              · rw [hR.out, X.out, e]; exact RestP.neg_mod (by omega)
            have E := Lib.hid e
            clear e
            go_wp2_with fail
            go_meet
            exact ⟨by rw [E.out], rfl⟩
          · have e : x = R := by rcases hA.out with ⟨q, e⟩ | ⟨q, e⟩; rw [hR.out, X.out, e]; omega
            have E := Lib.hid e
            clear e
            go_wp2_with fail
            go_meet
            exact ⟨by rw [E.out], rfl⟩
        case rest =>
          obtain ⟨rfl, rfl⟩ := hcut
          clear X x0 x1 hA
          go_wp2
          go_loop [9, 10] (fun v9 v10 => ∃ (k : Nat) (x : Int), k ≤ 31 ∧ v10 = .int .i64 ((k : Int) - 1) ∧ v9 = .int .u64 x ∧ x = R * (1000000000 / 2 ^ k) % d) (fun _ v10 => (intOf v10 + 1).toNat)
          case atStart => exact ⟨31, 0, by omega, rfl, rfl, RestP.start31⟩
          case round =>
            obtain ⟨k, x, hk, rfl, rfl, hx⟩ := hrel
            have hxb := Plain.mod_bd (R * (1000000000 / 2 ^ k)) (d := d) (by omega)
            rw [← hx] at hxb
            obtain ⟨x0, x1⟩ := hxb
            by_cases hk0 : 1 ≤ k
            · obtain ⟨j, rfl⟩ : ∃ j, k = j + 1 := ⟨k - 1, by omega⟩
              obtain ⟨y, hy⟩ : ∃ y : Int, (1000000000 : Int) / 2 ^ j = y := ⟨_, rfl⟩
              have y0 : 0 ≤ y := by rw [← hy]; exact Int.ediv_nonneg (by omega) (Int.pow_nonneg (by omega))
              obtain ⟨t, ht⟩ : ∃ t, (x + x) % d = t := ⟨_, rfl⟩
              have htb := Plain.mod_bd (x + x) (d := d) (by omega)
              rw [ht] at htb
              obtain ⟨x', hx'⟩ : ∃ x', (t + 0) % d = x' := ⟨_, rfl⟩
              have hxb' := Plain.mod_bd (t + 0) (d := d) (by omega)
              rw [hx'] at hxb'
              have st := RestP.stepm 1000000000 R d j
              rw [← hx, ht, hx', hy] at st
              have T := Lib.hid ht
              have X := Lib.hid hx'
              clear ht hx' hx
              by_cases b : y % 2 = 1
              · rw [if_pos b] at st
                have E := Lib.hid (show (x' + R) % d = R * (1000000000 / 2 ^ j) % d by rw [st, hy])
                have b' : (y % 2 == 1) = true := by simpa using b
                clear st b
                go_wp2_with fail
                refine (twice_any x 0 d t x' _ x0 x1 d1 (by omega) (by omega) T.out X.out htb.1 htb.2).mono ?_
                rintro e w' ⟨rfl, rfl⟩
                obtain ⟨x2, x3⟩ := hxb'
                go_wp2
                go_round
                case rel => exact ⟨j, _, by omega, by go_num, rfl, E.out⟩
                case measure => simp [intOf]
              · rw [if_neg b, Int.add_zero, Int.emod_eq_of_lt hxb'.1 hxb'.2] at st
                have E := Lib.hid (show x' = R * (1000000000 / 2 ^ j) % d by rw [st, hy])
                have b' : (y % 2 == 1) = false := by simpa using b
                clear st b
                go_wp2_with fail
                refine (twice_any x 0 d t x' _ x0 x1 d1 (by omega) (by omega) T.out X.out htb.1 htb.2).mono ?_
                rintro e w' ⟨rfl, rfl⟩
                go_wp2
                go_round
                case rel => exact ⟨j, _, by omega, by go_num, rfl, E.out⟩
                case measure => simp [intOf]
            · obtain rfl : k = 0 := by omega
              obtain ⟨m, hm⟩ : ∃ m, n % d = m := ⟨_, rfl⟩
              have hmb := Plain.mod_bd n (d := d) (by omega)
              rw [hm] at hmb
              obtain ⟨m0, m1⟩ := hmb
              obtain ⟨v, hv⟩ : ∃ v, (x + m) % d = v := ⟨_, rfl⟩
              have hvb := Plain.mod_bd (x + m) (d := d) (by omega)
              rw [hv] at hvb
              obtain ⟨v0, v1⟩ := hvb
              have hx2 : x = s % d * 1000000000 % d := by rw [hx, Int.pow_zero, Int.ediv_one, hR.out]
              have E := Lib.hid (show v = r by rw [← hv, hx2, ← hm, hr.out]; exact RestP.last hz.out)
              clear hx hx2 hk hk0
              go_wp2
              go_ret
              exact ⟨ret_int E.out, (Below.refl _ _).alloc (Nat.le_refl _) _⟩

theorem rest_any (z d s n r : Int) (w : World) (h : Plain.At z s n) (f : Plain.Far z) (id : Plain.I64 d) (d0 : 0 < d) (hr : r = z % d) :
    Calls Try.prog 42 #[.agg #[.int .i64 s, .int .i64 n], .int .i64 d] w fun e w' => e = .returned (.int .i64 r) ∧ Below w.heap.size w w' := by
  have g := Plain.far_sec h f
  have hm := Plain.mod_bd s d0
  by_cases p : 0 ≤ s
  · exact rest_core s n d s (s % d) r z w h.2.1 h.2.2 g.1 g.2 (by omega) id.2 (Lib.hid (.inl ⟨p, rfl⟩)) p (by omega) (Lib.hid rfl) hm.1 hm.2 (Lib.hid h.1) (Lib.hid hr)
  · exact rest_core s n d (-s) (s % d) r z w h.2.1 h.2.2 g.1 g.2 (by omega) id.2 (Lib.hid (.inr ⟨by omega, rfl⟩)) (by omega) (by omega) (Lib.hid rfl) hm.1 hm.2 (Lib.hid h.1) (Lib.hid hr)

end Go.Proofs.Ytllhfhgjhchlbaa.Sp
