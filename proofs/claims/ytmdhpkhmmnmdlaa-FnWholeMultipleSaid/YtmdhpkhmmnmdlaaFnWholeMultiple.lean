/-
  For all arguments of 64 bits a multiple of the duration stays as it is: the law FnWholeMultiple returns true and changes nothing.
-/
import Derived.Test.YtmdhpkhmmnmdlaaRows
import Derived.Test.YtmdhpkhmmnmdlaaLaw
import Derived.Test.YtmdhpkhmmnmdlaaApi
import Derived.Test.YtmdhpkhmmnmdlaaPlainB
import Derived.Test.YtmdhpkhmmnmdlaaDown
import Derived.WalkKit
import Derived.ProofKit
import Derived.OpenShut
import Derived.ShutString
import Derived.ChangeOld
import Derived.Below
namespace Go.Proofs.Ytmdhpkhmmnmdlaa.fnWholeMultiple
open Go.ChangeShapes Go.WideShapes Go.ChangeAt Go.RowKit
set_option linter.unusedVariables false

theorem own : ownKnob Try.prog.godebug = none := by kernel_rfl
theorem laidOut : laidOutB Try.prog = true := by kernel_rfl

set_option maxHeartbeats 4000000 in
theorem walk (a0 : Int) (a1 : Int) (w : World) (h0 : Plain.I64 a0) (h1 : Plain.I64 a1) :
    Calls Try.prog 9 #[.int .i64 a0, .int .i64 a1] w fun e w' => e = .returned (.bool true) ∧ Below w.heap.size w w' := by
  have i0 : Plain.I64 0 := by unfold Plain.I64; omega
  obtain ⟨l0, u0⟩ : -9223372036854775808 ≤ a0 ∧ a0 ≤ 9223372036854775807 := ⟨h0.1, h0.2⟩
  obtain ⟨l1, u1⟩ : -9223372036854775808 ≤ a1 ∧ a1 ≤ 9223372036854775807 := ⟨h1.1, h1.2⟩
  by_cases c : a1 ≤ 0
  · have hB0 : Below w.heap.size w w := Below.refl _ w
    go_enter Try.func9, Try.ntmps9
    go_wp2
    go_ret
    exact ⟨rfl, hB0⟩
  have d0 : 0 < a1 := by omega
  clear c
  by_cases c1 : 9223372036854775807 / a1 < a0
  · have hB0 : Below w.heap.size w w := Below.refl _ w
    go_enter Try.func9, Try.ntmps9
    go_wp2
    go_ret
    exact ⟨rfl, hB0⟩
  have kd1 : a0 * a1 ≤ 9223372036854775807 := (Int.le_ediv_iff_mul_le d0).1 (by omega)
  obtain ⟨q, hq⟩ : ∃ q, (-9223372036854775808 : Int).tdiv a1 = q := ⟨_, rfl⟩
  have hq2 : -9223372036854775808 ≤ q * a1 := by
    have e : (-9223372036854775808 : Int).tdiv a1 = -(9223372036854775808 / a1) := by rw [Int.neg_tdiv, Int.tdiv_eq_ediv_of_nonneg (by omega)]
    have l : 9223372036854775808 / a1 * a1 ≤ 9223372036854775808 := Int.ediv_mul_le _ (by omega)
    rw [← hq, e, Int.neg_mul]; omega
  have ql : -9223372036854775808 ≤ q := by
    have e : (-9223372036854775808 : Int).tdiv a1 = -(9223372036854775808 / a1) := by rw [Int.neg_tdiv, Int.tdiv_eq_ediv_of_nonneg (by omega)]
    have l : 9223372036854775808 / a1 ≤ 9223372036854775808 := Int.ediv_le_self _ (by omega)
    rw [← hq, e]; omega
  have qu : q ≤ 0 := by
    have e : (-9223372036854775808 : Int).tdiv a1 = -(9223372036854775808 / a1) := by rw [Int.neg_tdiv, Int.tdiv_eq_ediv_of_nonneg (by omega)]
    have l : 0 ≤ 9223372036854775808 / a1 := Int.ediv_nonneg (by omega) (by omega)
    rw [← hq, e]; omega
  by_cases c2 : a0 < q
  · have hB0 : Below w.heap.size w w := Below.refl _ w
    go_enter Try.func9, Try.ntmps9
    go_wp2
    go_ret
    exact ⟨rfl, hB0⟩
  have kd2 : -9223372036854775808 ≤ a0 * a1 := Int.le_trans hq2 (Int.mul_le_mul_of_nonneg_right (by omega) (by omega))
  have hk : Plain.I64 (a0 * a1) := ⟨kd2, kd1⟩
  have e0 : (a0 * a1) % a1 = 0 := Int.mul_emod_left _ _
  have e1 : Plain.down (a0 * a1 + 0) a1 = a0 * a1 := by rw [Int.add_zero]; exact Plain.down_fix e0
  have e2 : Plain.near (0 + a0 * a1) a1 = a0 * a1 := by rw [Int.zero_add]; exact Plain.near_fix e0
  have F1 := Lib.hid (show a0 * a1 = Plain.cl (Plain.down (a0 * a1 + 0) a1) by rw [e1]; exact (Plain.cl_in kd2 kd1).symm)
  have R1 := Lib.hid (show 0 = Plain.p2 (Plain.down (a0 * a1 + 0) a1) by rw [e1]; exact (Plain.p2_zero kd2 kd1).symm)
  have F2 := Lib.hid (show a0 * a1 = Plain.cl (Plain.near (0 + a0 * a1) a1) by rw [e2]; exact (Plain.cl_in kd2 kd1).symm)
  have R2 := Lib.hid (show 0 = Plain.p2 (Plain.near (0 + a0 * a1) a1) by rw [e2]; exact (Plain.p2_zero kd2 kd1).symm)
  clear e0 e1 e2 hq2
  have hB0 : Below w.heap.size w w := Below.refl _ w
  go_enter Try.func9, Try.ntmps9
  go_wp2_with fail
  refine (truncateOf_any (a0 * a1) 0 a1 (a0 * a1) 0 _ hk i0 h1 F1.out R1.out).mono ?_
  rintro e w1 ⟨rfl, hb1⟩
  have hB1 : Below w.heap.size w w1 := hB0.trans (hb1.mono hB0.size)
  clear hb1 hB0
  go_wp2_with fail
  refine (roundOf_any 0 (a0 * a1) a1 (a0 * a1) 0 _ i0 hk h1 F2.out R2.out).mono ?_
  rintro e w2 ⟨rfl, hb2⟩
  have hB2 : Below w.heap.size w w2 := hB1.trans (hb2.mono hB1.size)
  clear hb2 hB1
  go_wp2
  go_ret
  exact ⟨rfl, hB2⟩

set_option maxRecDepth 100000 in
theorem lifted (os : Os) (started : os.Started) (H : Type) (enc : TypeId × Value → H) :
    ReturnsInHanded {} Try.checked os 9 .any (Rows.fnWholeMultipleSpec.pre6 enc Try.prog Try.f9 Rows.fnWholeMultipleRow.domain false) (Rows.fnWholeMultipleSpec.post enc Try.prog Try.f9 false true false false) := by
  refine returnsInHanded_of_change (C := Try.checked) own started (by kernel_rfl) Try.func9
    (ChangeSpec.witness6 (enc := enc) (C := Try.checked) false ⟨#[], #[.int .i64 0, .int .i64 0], []⟩ 8 (by kernel_rfl) (by kernel_rfl) (by kernel_rfl) (by kernel_rfl)) ?_
  intro W base args ds gs before hval0 hW hcnd _
  have hval : ∀ (j : Nat) t v, Try.f9.params[j]? = some t → args[j]? = some v → Value.okWide Try.prog W .any base t v := hval0
  have hW' := hW
  obtain ⟨p, q, hA0, hV, rfl, hfz, hnd⟩ := hW
  have hA : DataW.TrodAll enc Try.prog W 0 (fun _ => true) true Try.f9.params.toList args.toList ds p := hA0
  rw [Try.params9] at hA hval
  obtain ⟨v0, vs0, d0, ds0, p0, q0, hargs, rfl, rfl, h0, r0⟩ := trodAll_cons hA
  obtain ⟨v1, vs1, d1, ds1, p1, q1, rfl, rfl, rfl, h1, r1⟩ := trodAll_cons r0
  obtain ⟨rfl, rfl, rfl⟩ := trodAll_nil r1
  obtain rfl : args = #[v0, v1] := by cases args; simp_all
  obtain ⟨rfl, rfl⟩ := trodVars_none hV
  obtain ⟨a0, rfl, rfl, rfl, w0⟩ := open_int Try.underlying2 (hval 0 2 v0 rfl rfl) h0
  obtain ⟨a1, rfl, rfl, rfl, w1⟩ := open_int Try.underlying2 (hval 1 2 v1 rfl rfl) h1
  clear hA0 hval0
  refine (walk a0 a1 W (i64_of_wf w0) (i64_of_wf w1)).mono fun e W' ⟨he, bel⟩ => ?_
  subst he
  exact ⟨_, rfl, _, _, _, [], _, [], hW', trodAll_mk1 (shut_bool Try.underlying4 _), (trodAll_cons_mk (shut_int Try.underlying2 w0) (trodAll_cons_mk (shut_int Try.underlying2 w1) trodAll_mk0)), rfl, bel.frame _, fun h => by cases h⟩

theorem proved : Rows.FnWholeMultipleSaid :=
  OpenClaim.holds_of_wide 9 Try.f9 rfl rfl rfl rfl rfl rfl rfl ⟨rfl, rfl, rfl, rfl, rfl⟩ rfl rfl rfl rfl rfl (by kernel_rfl) Try.func9 (by kernel_rfl)
    (of_decide_eq_true (by kernel_rfl)) (by unfold Func.isWrapper; first | (rw [if_pos (by decide +kernel)]; kernel_rfl) | (rw [if_neg (by decide +kernel)]; exact ⟨rfl, rfl⟩))
    (fun os started H enc _ => lifted os started H enc)
#print axioms proved
end Go.Proofs.Ytmdhpkhmmnmdlaa.fnWholeMultiple
