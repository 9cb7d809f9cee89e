/-
  The contract of time.div: the general case, a division of 128 bits by shifting and subtracting.
-/
import Derived.Test.YtllhfhgjhchlbaaDiv
import Derived.Test.YtllhfhgjhchlbaaDivP
namespace Go.Proofs.Ytllhfhgjhchlbaa
open Go.RowKit
set_option linter.unusedVariables false

set_option maxRecDepth 100000 in
set_option maxHeartbeats 4000000 in
theorem div_general (s n d S N r : Int) (neg : Bool) (w : World) (a0 : 0 ≤ n) (a1 : n < 1000000000) (g0 : -4000000000000000001 ≤ s) (g1 : s ≤ 4000000000000000000)
    (hS : Hid (AbsOf s n S N neg)) (c0 : 0 ≤ N) (c1 : N < 1000000000) (e0 : 0 ≤ S) (e1 : S ≤ 4000000000000000001)
    (d0 : 1 ≤ d) (d1 : d ≤ 9223372036854775807) (k : d < 1000000000 → (1000000000 % (d + d) == 0) = false) (k2 : (d % 1000000000 == 0) = false)
    (H L p x0 x1 x2 P1 P2 V : Int) (hH : S / 4294967296 = H) (H0 : 0 ≤ H) (H1 : H ≤ 4294967295) (hL : bits .and .u64 S 4294967295 = L) (L0 : 0 ≤ L) (L1 : L ≤ 4294967295)
    (hp : H * 1000000000 / 4294967296 = p) (p0 : 0 ≤ p) (p1 : p ≤ 4294967295) (hx0 : IntKind.u64.wrap (H * 1000000000 * 4294967296) = x0) (hx1 : IntKind.u64.wrap (x0 + L * 1000000000) = x1) (hx2 : IntKind.u64.wrap (x1 + N) = x2)
    (hP1 : Hid ((x1 < x0 ∧ P1 = p + 1) ∨ (¬ x1 < x0 ∧ P1 = p))) (hP2 : Hid ((x2 < x1 ∧ P2 = P1 + 1) ∨ (¬ x2 < x1 ∧ P2 = P1))) (q0 : 0 ≤ P1) (q1 : P1 ≤ 4294967296)
    (hV : Hid (P2 * 18446744073709551616 + x2 = V ∧ 0 ≤ P2 ∧ P2 ≤ 9223372036854775807 ∧ 0 ≤ x2 ∧ x2 ≤ 18446744073709551615)) (hr : Hid (Turn neg (V % d) d r)) :
    Calls Try.prog 48 #[.agg #[.int .u64 n, .int .i64 s, .pointer none], .int .i64 d] w (DivRet r w) := by
  go_enter Try.func48, Try.ntmps48
  go_wp2_with fail
  refine (nsec_any _ 0 n _ ?_ a0 a1).mono ?_
  · simp
  rintro e w' ⟨rfl, rfl⟩
  go_wp2_with fail
  refine (sec_any _ 0 s n _ ?_ ?_ a0 a1).mono ?_
  · simp
  · simp
  rintro e w' ⟨rfl, rfl⟩
  go_upto_if 20 with fail
  go_cut [6, 7, 8] (fun s6 s7 s8 wx => s6 = .bool neg ∧ s7 = .int .i32 N ∧ s8 = .int .i64 S ∧ wx = w.alloc (.cells #[.int .u64 n, .int .i64 s, .pointer none] 40))
  case first =>
    by_cases p : s < 0
    · by_cases p2 : -n < 0
      · go_wp2_with fail
        go_meet
        exact cut_eq (hS.out.neg1 p p2 a1)
      · go_wp2_with fail
        go_meet
        exact cut_eq (hS.out.neg0 p p2 a0)
    · go_wp2_with fail
      go_meet
      exact cut_eq (hS.out.pos p)
  case rest =>
    obtain ⟨rfl, rfl, rfl, rfl⟩ := hcut
    go_upto_region 38 with fail
    go_cut [113] (fun b wx => b = .bool false ∧ wx = w.alloc (.cells #[.int .u64 n, .int .i64 s, .pointer none] 40))
    case first =>
      by_cases ks : d < 1000000000
      · have k' := k ks
        clear k
        go_wp2_with fail
        go_meet
        exact ⟨rfl, rfl⟩
      · clear k
        go_wp2_with fail
        go_meet
        exact ⟨rfl, rfl⟩
    case rest =>
      obtain ⟨rfl, rfl⟩ := hcut
      clear k
      go_upto_if 49 with fail
      go_cut [12] (fun u wx => u = .int .u64 P1 ∧ wx = w.alloc (.cells #[.int .u64 n, .int .i64 s, .pointer none] 40))
      case first =>
        rcases hP1.out with ⟨t, e⟩ | ⟨t, e⟩
        · go_wp2_with fail
          go_meet
          exact ⟨by rw [e], rfl⟩
        · go_wp2_with fail
          go_meet
          exact ⟨by rw [e], rfl⟩
      case rest =>
        obtain ⟨rfl, rfl⟩ := hcut
        go_upto_if 59 with fail
        go_cut [12] (fun u wx => u = .int .u64 P2 ∧ wx = w.alloc (.cells #[.int .u64 n, .int .i64 s, .pointer none] 40))
        case first =>
          rcases hP2.out with ⟨t, e⟩ | ⟨t, e⟩
          · go_wp2_with fail
            go_meet
            exact ⟨by rw [e], rfl⟩
          · go_wp2_with fail
            go_meet
            exact ⟨by rw [e], rfl⟩
        case rest =>
          obtain ⟨rfl, rfl⟩ := hcut
          clear hH hL hp hx0 hx1 hx2 hP1 hP2 H0 H1 L0 L1 p0 p1 q0 q1
          go_wp2
          go_loop [15] (fun v => ∃ x : Int, v = .int .u64 x ∧ DivP.Sh d x ∧ 0 < x ∧ x ≤ 18446744073709551615) (fun v => (18446744073709551616 - intOf v).toNat)
          case atStart => exact ⟨d, rfl, DivP.Sh.start d0, by omega, by omega⟩
          case round =>
            obtain ⟨x, rfl, sh, xp, xm⟩ := hrel
            by_cases xt : x < 9223372036854775808
            · have t1 : (x / 9223372036854775808 != 1) = true := by simp; omega
              go_wp2
              go_round
              case rel => exact ⟨x * 2, rfl, sh.next, by omega, by omega⟩
              case measure => simp [intOf]; omega
            · have t1 : (x / 9223372036854775808 != 1) = false := by simp; omega
              have hI := Lib.hid (DivP.inv_start (V := V) (U1 := P2) (U0 := x2) sh (by omega) xm hV.out.1 ⟨hV.out.2.1, hV.out.2.2.1⟩ hV.out.2.2.2)
              clear sh xp
              go_wp2
              go_loop [4, 12, 13, 15, 16] (fun v4 v12 v13 v15 v16 => ∃ q U1 U0 E1 E0 : Int, v4 = .int .i64 q ∧ v12 = .int .u64 U1 ∧ v13 = .int .u64 U0 ∧ v15 = .int .u64 E1 ∧ v16 = .int .u64 E0 ∧ DivP.Inv V d U1 U0 E1 E0)
                (fun _ _ _ v15 v16 => (intOf v15 * 18446744073709551616 + intOf v16).toNat)
              case atStart => exact ⟨0, P2, x2, x, 0, rfl, rfl, rfl, rfl, rfl, hI.out⟩
              case round =>
                clear t1 hI xt xm
                obtain ⟨q, U1, U0, E1, E0, rfl, rfl, rfl, rfl, rfl, inv⟩ := hrel
                have I := Lib.hid inv
                obtain ⟨_, _, _, ⟨b1, b2⟩, ⟨b3, b4⟩, ⟨b5, b6⟩, ⟨b7, b8⟩⟩ := inv
                obtain ⟨ge, hge⟩ : ∃ ge : Bool, ge = decide (E1 * 18446744073709551616 + E0 ≤ U1 * 18446744073709551616 + U0) := ⟨_, rfl⟩
                have G := Lib.hid hge
                clear hge
                go_upto_region 27 with fail
                go_cut [81] (fun b wx => b = .bool ge ∧ wx = w.alloc (.cells #[.int .u64 n, .int .i64 s, .pointer none] 40))
                case first =>
                  by_cases t1 : E1 < U1
                  · go_wp2_with fail
                    go_meet
                    exact ⟨by rw [G.out]; congr 1; simp; omega, rfl⟩
                  · by_cases t2 : U1 = E1
                    · have t3 : (U1 == E1) = true := by simpa using t2
                      have T := Lib.hid t2
                      clear t2
                      by_cases t4 : E0 ≤ U0
                      · go_wp2_with fail
                        go_meet
                        exact ⟨by rw [G.out]; congr 1; have := T.out; simp; omega, rfl⟩
                      · go_wp2_with fail
                        go_meet
                        exact ⟨by rw [G.out]; congr 1; have := T.out; simp; omega, rfl⟩
                    · have t3 : (U1 == E1) = false := by simpa using t2
                      have T := Lib.hid t2
                      clear t2
                      go_wp2_with fail
                      go_meet
                      exact ⟨by rw [G.out]; congr 1; have := T.out; simp; omega, rfl⟩
                case rest =>
                  obtain ⟨rfl, rfl⟩ := hcut
                  go_upto_if 81 with fail
                  go_cut [4, 12, 13] (fun v4 v12 v13 wx => ∃ q' X1 X0 : Int, v4 = .int .i64 q' ∧ v12 = .int .u64 X1 ∧ v13 = .int .u64 X0 ∧ DivP.Half V d X1 X0 E1 E0 ∧ wx = w.alloc (.cells #[.int .u64 n, .int .i64 s, .pointer none] 40))
                  case first =>
                    cases ge with
                    | false =>
                      have h := G.out
                      have lt : U1 * 18446744073709551616 + U0 < E1 * 18446744073709551616 + E0 := by simpa using h
                      have K := Lib.hid (DivP.keep I.out lt)
                      clear h lt
                      go_wp2_with fail
                      go_meet
                      exact ⟨_, _, _, rfl, rfl, rfl, K.out, rfl⟩
                    | true =>
                      have h := G.out
                      have lt : E1 * 18446744073709551616 + E0 ≤ U1 * 18446744073709551616 + U0 := by simpa using h
                      clear h
                      by_cases t : U0 < E0
                      · obtain ⟨X0, hX0⟩ : ∃ X0, IntKind.u64.wrap (U0 - E0) = X0 := ⟨_, rfl⟩
                        have hX : X0 = U0 - E0 + 18446744073709551616 := by rw [← hX0, IntKind.wrap_u64]; omega
                        have y1 : U0 < X0 := by omega
                        have y2 : X0 ≤ 18446744073709551615 := by omega
                        have y3 : E1 ≤ U1 - 1 := by omega
                        have K := Lib.hid (DivP.take (X1 := U1 - 1 - E1) (X0 := X0) I.out (by omega) (by omega) (by omega))
                        clear hX lt
                        go_wp2_with fail
                        go_meet
                        exact ⟨_, _, _, rfl, rfl, rfl, K.out, rfl⟩
                      · have y3 : E1 ≤ U1 := by omega
                        have K := Lib.hid (DivP.take (X1 := U1 - E1) (X0 := U0 - E0) I.out (by omega) (by omega) (by omega))
                        clear lt
                        go_wp2_with fail
                        go_meet
                        exact ⟨_, _, _, rfl, rfl, rfl, K.out, rfl⟩
                  case rest =>
                    obtain ⟨q', X1, X0, rfl, rfl, rfl, half, rfl⟩ := hcut
                    have K := Lib.hid half
                    obtain ⟨_, _, _, ⟨f1, f2⟩, ⟨f3, f4⟩, _, _⟩ := half
                    clear G I
                    by_cases fin : E1 = 0 ∧ E0 = d
                    · obtain ⟨z1, z2⟩ := fin
                      have u1 : (E1 == 0) = true := by simpa using z1
                      have u2 : (E0 == d) = true := by simpa using z2
                      have hm : X0 = V % d := by have h := K.out; rw [z1, z2] at h; exact (DivP.done h).2
                      have m0 : 0 ≤ X0 := by omega
                      have m1 : X0 < d := by rw [hm]; exact Int.emod_lt_of_pos _ (by omega)
                      rw [← hm] at hr
                      clear hm z1 z2 K
                      rcases hr.out with ⟨rfl, rfl⟩ | ⟨rfl, hz, rfl⟩ | ⟨rfl, hz, rfl⟩
                      · clear hr
                        go_wp2
                        go_ret2
                        exact ⟨_, rfl, (Below.refl _ _).alloc (Nat.le_refl _) _⟩
                      · have z3 : (r != 0) = false := by simpa using hz
                        clear hr hz
                        go_wp2
                        go_ret2
                        exact ⟨_, rfl, (Below.refl _ _).alloc (Nat.le_refl _) _⟩
                      · have z3 : (X0 != 0) = true := by simpa using hz
                        clear hr hz
                        go_wp2
                        go_ret2
                        exact ⟨_, rfl, (Below.refl _ _).alloc (Nat.le_refl _) _⟩
                    · obtain ⟨c, hc⟩ : ∃ c, c = E1 % 2 := ⟨_, rfl⟩
                      have hc1 : bits .and .u64 E1 1 = c := by rw [hc]; exact DivP.low_bit E1 b5 b6
                      have c01 : c = 0 ∨ c = 1 := by omega
                      obtain ⟨Y0, hY⟩ : ∃ Y0, Y0 = E0 / 2 + c * 9223372036854775808 := ⟨_, rfl⟩
                      have hY1 : bits .or .u64 (E0 / 2) (c * 9223372036854775808) = Y0 := by rw [hY]; exact DivP.top_bit (E0 / 2) c (by omega) (by omega) c01
                      have j0 : 0 ≤ c := by omega
                      have j1 : c ≤ 1 := by omega
                      have NX := Lib.hid (show DivP.Inv V d X1 X0 (E1 / 2) Y0 by rw [hY, hc]; exact DivP.next K.out fin d1)
                      have SM := Lib.hid (show (E1 / 2 * 18446744073709551616 + Y0).toNat < (E1 * 18446744073709551616 + E0).toNat by rw [hY, hc]; exact DivP.smaller K.out d0)
                      clear hc hY c01
                      by_cases z1 : E1 = 0
                      · have u1 : (E1 == 0) = true := by simpa using z1
                        have u2 : (E0 == d) = false := by simp; exact fun h => fin ⟨z1, h⟩
                        clear fin z1 K
                        go_wp2
                        go_round
                        case rel => exact ⟨_, _, _, _, _, rfl, rfl, rfl, rfl, rfl, NX.out⟩
                        case measure => simpa [intOf] using SM.out
                      · have u1 : (E1 == 0) = false := by simpa using z1
                        clear fin z1 K
                        go_wp2
                        go_round
                        case rel => exact ⟨_, _, _, _, _, rfl, rfl, rfl, rfl, rfl, NX.out⟩
                        case measure => simpa [intOf] using SM.out

end Go.Proofs.Ytllhfhgjhchlbaa
