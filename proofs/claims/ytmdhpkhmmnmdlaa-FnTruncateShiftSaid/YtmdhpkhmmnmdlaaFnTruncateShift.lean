/-
  For all arguments of 64 bits a multiple that is added to an instant is added to what it is rounded to: the law FnTruncateShift returns true and changes nothing.
-/
import Derived.Test.YtmdhpkhmmnmdlaaRows
import Derived.Test.YtmdhpkhmmnmdlaaLaw
import Derived.Test.YtmdhpkhmmnmdlaaApi
import Derived.Test.YtmdhpkhmmnmdlaaPlainB
import Derived.Test.YtmdhpkhmmnmdlaaDown
import Derived.Test.YtmdhpkhmmnmdlaaListS
import Derived.WalkKit
import Derived.ProofKit
import Derived.OpenShut
import Derived.ShutString
import Derived.ChangeOld
import Derived.Below
namespace Go.Proofs.Ytmdhpkhmmnmdlaa.fnTruncateShift
open Go.ChangeShapes Go.WideShapes Go.ChangeAt Go.RowKit
set_option linter.unusedVariables false

theorem own : ownKnob Try.prog.godebug = none := by kernel_rfl
theorem laidOut : laidOutB Try.prog = true := by kernel_rfl

set_option maxHeartbeats 4000000 in
theorem walk (a0 : Int) (a1 : Int) (a2 : Int) (w : World) (h0 : Plain.I64 a0) (h1 : Plain.I64 a1) (h2 : Plain.I64 a2) :
    Calls Try.prog 6 #[.int .i64 a0, .int .i64 a1, .int .i64 a2] w fun e w' => e = .returned (.bool true) ∧ Below w.heap.size w w' := by
  have i0 : Plain.I64 0 := by unfold Plain.I64; omega
  obtain ⟨l0, u0⟩ : -9223372036854775808 ≤ a0 ∧ a0 ≤ 9223372036854775807 := ⟨h0.1, h0.2⟩
  obtain ⟨l1, u1⟩ : -9223372036854775808 ≤ a1 ∧ a1 ≤ 9223372036854775807 := ⟨h1.1, h1.2⟩
  obtain ⟨l2, u2⟩ : -9223372036854775808 ≤ a2 ∧ a2 ≤ 9223372036854775807 := ⟨h2.1, h2.2⟩
  by_cases c : a2 ≤ 0
  · have hB0 : Below w.heap.size w w := Below.refl _ w
    go_enter Try.func6, Try.ntmps6
    go_wp2
    go_ret
    exact ⟨rfl, hB0⟩
  have d0 : 0 < a2 := by omega
  clear c
  by_cases c1 : 9223372036854775807 / a2 < a1
  · have hB0 : Below w.heap.size w w := Below.refl _ w
    go_enter Try.func6, Try.ntmps6
    go_wp2
    go_ret
    exact ⟨rfl, hB0⟩
  have kd1 : a1 * a2 ≤ 9223372036854775807 := (Int.le_ediv_iff_mul_le d0).1 (by omega)
  obtain ⟨q, hq⟩ : ∃ q, (-9223372036854775808 : Int).tdiv a2 = q := ⟨_, rfl⟩
  have hq2 : -9223372036854775808 ≤ q * a2 := by
    have e : (-9223372036854775808 : Int).tdiv a2 = -(9223372036854775808 / a2) := by rw [Int.neg_tdiv, Int.tdiv_eq_ediv_of_nonneg (by omega)]
    have l : 9223372036854775808 / a2 * a2 ≤ 9223372036854775808 := Int.ediv_mul_le _ (by omega)
    rw [← hq, e, Int.neg_mul]; omega
  have ql : -9223372036854775808 ≤ q := by
    have e : (-9223372036854775808 : Int).tdiv a2 = -(9223372036854775808 / a2) := by rw [Int.neg_tdiv, Int.tdiv_eq_ediv_of_nonneg (by omega)]
    have l : 9223372036854775808 / a2 ≤ 9223372036854775808 := Int.ediv_le_self _ (by omega)
    rw [← hq, e]; omega
  have qu : q ≤ 0 := by
    have e : (-9223372036854775808 : Int).tdiv a2 = -(9223372036854775808 / a2) := by rw [Int.neg_tdiv, Int.tdiv_eq_ediv_of_nonneg (by omega)]
    have l : 0 ≤ 9223372036854775808 / a2 := Int.ediv_nonneg (by omega) (by omega)
    rw [← hq, e]; omega
  by_cases c2 : a1 < q
  · have hB0 : Below w.heap.size w w := Below.refl _ w
    go_enter Try.func6, Try.ntmps6
    go_wp2
    go_ret
    exact ⟨rfl, hB0⟩
  have kd2 : -9223372036854775808 ≤ a1 * a2 := Int.le_trans hq2 (Int.mul_le_mul_of_nonneg_right (by omega) (by omega))
  have hk : Plain.I64 (a1 * a2) := ⟨kd2, kd1⟩
  obtain ⟨f, F⟩ : ∃ f, Hid (f = Plain.cl (Plain.down (a0 + 0) a2)) := ⟨_, Lib.hid rfl⟩
  obtain ⟨r, R⟩ : ∃ r, Hid (r = Plain.p2 (Plain.down (a0 + 0) a2)) := ⟨_, Lib.hid rfl⟩
  have jf : Plain.I64 f := Plain.i64_cl F.out
  have jr : Plain.I64 r := Plain.i64_p2 R.out
  obtain ⟨x, X⟩ : ∃ x, Hid (x = Plain.cl (Plain.near (a0 + 0) a2)) := ⟨_, Lib.hid rfl⟩
  obtain ⟨y, Y⟩ : ∃ y, Hid (y = Plain.p2 (Plain.near (a0 + 0) a2)) := ⟨_, Lib.hid rfl⟩
  have jx : Plain.I64 x := Plain.i64_cl X.out
  have jy : Plain.I64 y := Plain.i64_p2 Y.out
  obtain ⟨g, G⟩ : ∃ g, Hid (g = Plain.cl (f + r + a1 * a2)) := ⟨_, Lib.hid rfl⟩
  obtain ⟨s, S⟩ : ∃ s, Hid (s = Plain.p2 (f + r + a1 * a2)) := ⟨_, Lib.hid rfl⟩
  have jg : Plain.I64 g := Plain.i64_cl G.out
  have js : Plain.I64 s := Plain.i64_p2 S.out
  obtain ⟨v, V⟩ : ∃ v, Hid (v = Plain.cl (x + y + a1 * a2)) := ⟨_, Lib.hid rfl⟩
  obtain ⟨u, U⟩ : ∃ u, Hid (u = Plain.p2 (x + y + a1 * a2)) := ⟨_, Lib.hid rfl⟩
  have jv : Plain.I64 v := Plain.i64_cl V.out
  have ju : Plain.I64 u := Plain.i64_p2 U.out
  have b1 := Plain.down_bd (z := a0 + 0) d0
  have b2 := Plain.near_bd (z := a0 + 0) d0
  have T1 := Plain.sum_of F.out R.out (by omega) (by omega)
  have T2 := Plain.sum_of X.out Y.out (by omega) (by omega)
  have e1 : Plain.down (a0 + a1 * a2) a2 = f + r + a1 * a2 := by rw [Plain.down_shift a1 d0, T1, Int.add_zero]
  have e2 : Plain.near (a0 + a1 * a2) a2 = x + y + a1 * a2 := by rw [Plain.near_shift a1 d0, T2, Int.add_zero]
  have G2 := Lib.hid (show g = Plain.cl (Plain.down (a0 + a1 * a2) a2) by rw [e1]; exact G.out)
  have S2 := Lib.hid (show s = Plain.p2 (Plain.down (a0 + a1 * a2) a2) by rw [e1]; exact S.out)
  have V2 := Lib.hid (show v = Plain.cl (Plain.near (a0 + a1 * a2) a2) by rw [e2]; exact V.out)
  have U2 := Lib.hid (show u = Plain.p2 (Plain.near (a0 + a1 * a2) a2) by rw [e2]; exact U.out)
  clear b1 b2 T1 T2 e1 e2 hq2
  have hB0 : Below w.heap.size w w := Below.refl _ w
  go_enter Try.func6, Try.ntmps6
  go_wp2_with fail
  refine (truncateOf_any a0 0 a2 f r _ h0 i0 h2 F.out R.out).mono ?_
  rintro e w1 ⟨rfl, hb1⟩
  have hB1 : Below w.heap.size w w1 := hB0.trans (hb1.mono hB0.size)
  clear hb1 hB0
  go_wp2_with fail
  refine (truncateOf_any a0 (a1 * a2) a2 g s _ h0 hk h2 G2.out S2.out).mono ?_
  rintro e w2 ⟨rfl, hb2⟩
  have hB2 : Below w.heap.size w w2 := hB1.trans (hb2.mono hB1.size)
  clear hb2 hB1
  go_wp2_with fail
  refine (Sp.addAll_three f r (a1*a2) g s _ _ ?_ ?_ ?_ ?_ jf jr hk G.out S.out).mono ?_
  · simp
  · simp
  · simp
  · simp
  rintro e w3 ⟨rfl, hb3⟩
  have hB3 : Below w.heap.size w w3 := (hB2.alloc hB2.size _).trans (hb3.mono (by simpa using Nat.le_succ_of_le hB2.size))
  clear hb3 hB2
  go_wp2_with fail
  refine (roundOf_any a0 0 a2 x y _ h0 i0 h2 X.out Y.out).mono ?_
  rintro e w4 ⟨rfl, hb4⟩
  have hB4 : Below w.heap.size w w4 := hB3.trans (hb4.mono hB3.size)
  clear hb4 hB3
  go_wp2_with fail
  refine (roundOf_any a0 (a1 * a2) a2 v u _ h0 hk h2 V2.out U2.out).mono ?_
  rintro e w5 ⟨rfl, hb5⟩
  have hB5 : Below w.heap.size w w5 := hB4.trans (hb5.mono hB4.size)
  clear hb5 hB4
  go_wp2_with fail
  refine (Sp.addAll_three x y (a1*a2) v u _ _ ?_ ?_ ?_ ?_ jx jy hk V.out U.out).mono ?_
  · simp
  · simp
  · simp
  · simp
  rintro e w6 ⟨rfl, hb6⟩
  have hB6 : Below w.heap.size w w6 := (hB5.alloc hB5.size _).trans (hb6.mono (by simpa using Nat.le_succ_of_le hB5.size))
  clear hb6 hB5
  go_wp2
  go_ret
  exact ⟨rfl, hB6⟩

set_option maxRecDepth 100000 in
theorem lifted (os : Os) (started : os.Started) (H : Type) (enc : TypeId × Value → H) :
    ReturnsInHanded {} Try.checked os 6 .any (Rows.fnTruncateShiftSpec.pre6 enc Try.prog Try.f6 Rows.fnTruncateShiftRow.domain false) (Rows.fnTruncateShiftSpec.post enc Try.prog Try.f6 false true false false) := by
  refine returnsInHanded_of_change (C := Try.checked) own started (by kernel_rfl) Try.func6
    (ChangeSpec.witness6 (enc := enc) (C := Try.checked) false ⟨#[], #[.int .i64 0, .int .i64 0, .int .i64 0], []⟩ 8 (by kernel_rfl) (by kernel_rfl) (by kernel_rfl) (by kernel_rfl)) ?_
  intro W base args ds gs before hval0 hW hcnd _
  have hval : ∀ (j : Nat) t v, Try.f6.params[j]? = some t → args[j]? = some v → Value.okWide Try.prog W .any base t v := hval0
  have hW' := hW
  obtain ⟨p, q, hA0, hV, rfl, hfz, hnd⟩ := hW
  have hA : DataW.TrodAll enc Try.prog W 0 (fun _ => true) true Try.f6.params.toList args.toList ds p := hA0
  rw [Try.params6] at hA hval
  obtain ⟨v0, vs0, d0, ds0, p0, q0, hargs, rfl, rfl, h0, r0⟩ := trodAll_cons hA
  obtain ⟨v1, vs1, d1, ds1, p1, q1, rfl, rfl, rfl, h1, r1⟩ := trodAll_cons r0
  obtain ⟨v2, vs2, d2, ds2, p2, q2, rfl, rfl, rfl, h2, r2⟩ := trodAll_cons r1
  obtain ⟨rfl, rfl, rfl⟩ := trodAll_nil r2
  obtain rfl : args = #[v0, v1, v2] := by cases args; simp_all
  obtain ⟨rfl, rfl⟩ := trodVars_none hV
  obtain ⟨a0, rfl, rfl, rfl, w0⟩ := open_int Try.underlying2 (hval 0 2 v0 rfl rfl) h0
  obtain ⟨a1, rfl, rfl, rfl, w1⟩ := open_int Try.underlying2 (hval 1 2 v1 rfl rfl) h1
  obtain ⟨a2, rfl, rfl, rfl, w2⟩ := open_int Try.underlying2 (hval 2 2 v2 rfl rfl) h2
  clear hA0 hval0
  refine (walk a0 a1 a2 W (i64_of_wf w0) (i64_of_wf w1) (i64_of_wf w2)).mono fun e W' ⟨he, bel⟩ => ?_
  subst he
  exact ⟨_, rfl, _, _, _, [], _, [], hW', trodAll_mk1 (shut_bool Try.underlying4 _), (trodAll_cons_mk (shut_int Try.underlying2 w0) (trodAll_cons_mk (shut_int Try.underlying2 w1) (trodAll_cons_mk (shut_int Try.underlying2 w2) trodAll_mk0))), rfl, bel.frame _, fun h => by cases h⟩

theorem proved : Rows.FnTruncateShiftSaid :=
  OpenClaim.holds_of_wide 6 Try.f6 rfl rfl rfl rfl rfl rfl rfl ⟨rfl, rfl, rfl, rfl, rfl⟩ rfl rfl rfl rfl rfl (by kernel_rfl) Try.func6 (by kernel_rfl)
    (of_decide_eq_true (by kernel_rfl)) (by unfold Func.isWrapper; first | (rw [if_pos (by decide +kernel)]; kernel_rfl) | (rw [if_neg (by decide +kernel)]; exact ⟨rfl, rfl⟩))
    (fun os started H enc _ => lifted os started H enc)
#print axioms proved
end Go.Proofs.Ytmdhpkhmmnmdlaa.fnTruncateShift
