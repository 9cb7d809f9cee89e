/-
  For all arguments of 64 bits truncating twice is truncating once: the law FnTruncateTwice returns true and changes nothing.
-/
import Derived.Test.YtmdhpkhmmnmdlaaRows
import Derived.Test.YtmdhpkhmmnmdlaaLaw
import Derived.Test.YtmdhpkhmmnmdlaaApi
import Derived.Test.YtmdhpkhmmnmdlaaPlainB
import Derived.Test.YtmdhpkhmmnmdlaaDown
import Derived.WalkKit
import Derived.ProofKit
import Derived.OpenShut
import Derived.ShutString
import Derived.ChangeOld
import Derived.Below
namespace Go.Proofs.Ytmdhpkhmmnmdlaa.fnTruncateTwice
open Go.ChangeShapes Go.WideShapes Go.ChangeAt Go.RowKit
set_option linter.unusedVariables false

theorem own : ownKnob Try.prog.godebug = none := by kernel_rfl
theorem laidOut : laidOutB Try.prog = true := by kernel_rfl

set_option maxHeartbeats 4000000 in
theorem walk (a0 : Int) (a1 : Int) (a2 : Int) (w : World) (h0 : Plain.I64 a0) (h1 : Plain.I64 a1) (h2 : Plain.I64 a2) :
    Calls Try.prog 7 #[.int .i64 a0, .int .i64 a1, .int .i64 a2] w fun e w' => e = .returned (.bool true) ∧ Below w.heap.size w w' := by
  obtain ⟨l0, u0⟩ : -9223372036854775808 ≤ a0 ∧ a0 ≤ 9223372036854775807 := ⟨h0.1, h0.2⟩
  obtain ⟨l1, u1⟩ : -9223372036854775808 ≤ a1 ∧ a1 ≤ 9223372036854775807 := ⟨h1.1, h1.2⟩
  obtain ⟨l2, u2⟩ : -9223372036854775808 ≤ a2 ∧ a2 ≤ 9223372036854775807 := ⟨h2.1, h2.2⟩
  by_cases c : a2 ≤ 0
  · have hB0 : Below w.heap.size w w := Below.refl _ w
    go_enter Try.func7, Try.ntmps7
    go_wp2
    go_ret
    exact ⟨rfl, hB0⟩
  have d0 : 0 < a2 := by omega
  clear c
  have rg := Lib.hid (Plain.range_two h0 h1)
  obtain ⟨f, F⟩ : ∃ f, Hid (f = Plain.cl (Plain.down (a0 + a1) a2)) := ⟨_, Lib.hid rfl⟩
  obtain ⟨r, R⟩ : ∃ r, Hid (r = Plain.p2 (Plain.down (a0 + a1) a2)) := ⟨_, Lib.hid rfl⟩
  have jf : Plain.I64 f := Plain.i64_cl F.out
  have jr : Plain.I64 r := Plain.i64_p2 R.out
  by_cases eE : f = -9223372036854775808 ∧ r = -9223372036854775808
  · have E := Lib.hid (show true = decide (f = -9223372036854775808 ∧ r = -9223372036854775808) by simpa using eE)
    clear eE
    have hB0 : Below w.heap.size w w := Below.refl _ w
    go_enter Try.func7, Try.ntmps7
    go_wp2_with fail
    refine (Sp.truncateOf_any a0 a1 a2 f r _ h0 h1 h2 F.out R.out).mono ?_
    rintro e w1 ⟨rfl, hb1⟩
    have hB1 : Below w.heap.size w w1 := hB0.trans (hb1.mono hB0.size)
    clear hb1 hB0
    go_wp2_with fail
    refine (Sp.early_any f r true _ E.out).mono ?_
    rintro e w2 ⟨rfl, hb2⟩
    have hB2 : Below w.heap.size w w2 := hB1.trans (hb2.mono hB1.size)
    clear hb2 hB1
    go_wp2
    go_ret
    exact ⟨rfl, hB2⟩
  have E := Lib.hid (show false = decide (f = -9223372036854775808 ∧ r = -9223372036854775808) by simpa using eE)
  have NE := Lib.hid eE
  clear eE
  obtain ⟨m, M⟩ : ∃ m, Hid (m = (a0 + a1) % a2) := ⟨_, Lib.hid rfl⟩
  have S := Lib.hid (Plain.not_early F.out R.out NE.out (Int.le_trans (Plain.down_bd d0).2 rg.out.2)).1
  obtain ⟨m0, m1⟩ : 0 ≤ m ∧ m < a2 := by rw [M.out]; exact Plain.mod_bd _ d0
  have B := Lib.hid (show m = Plain.cl (a0 + a1 - (f + r)) from Plain.cl_sub (by rw [S, Plain.down_pos d0, M.out]; omega) (by omega) (by omega))
  have e1 : Plain.down (f + r) a2 = Plain.down (a0 + a1) a2 := by rw [S]; exact Plain.down_fix (Plain.down_mod d0)
  have e2 : Plain.near (f + r) a2 = Plain.down (a0 + a1) a2 := by rw [S]; exact Plain.near_fix (Plain.down_mod d0)
  have F1 := Lib.hid (show f = Plain.cl (Plain.down (f + r) a2) by rw [e1]; exact F.out)
  have R1 := Lib.hid (show r = Plain.p2 (Plain.down (f + r) a2) by rw [e1]; exact R.out)
  have F2 := Lib.hid (show f = Plain.cl (Plain.near (f + r) a2) by rw [e2]; exact F.out)
  have R2 := Lib.hid (show r = Plain.p2 (Plain.near (f + r) a2) by rw [e2]; exact R.out)
  clear e1 e2
  have hB0 : Below w.heap.size w w := Below.refl _ w
  go_enter Try.func7, Try.ntmps7
  go_wp2_with fail
  refine (Sp.truncateOf_any a0 a1 a2 f r _ h0 h1 h2 F.out R.out).mono ?_
  rintro e w1 ⟨rfl, hb1⟩
  have hB1 : Below w.heap.size w w1 := hB0.trans (hb1.mono hB0.size)
  clear hb1 hB0
  go_wp2_with fail
  refine (Sp.early_any f r false _ E.out).mono ?_
  rintro e w2 ⟨rfl, hb2⟩
  have hB2 : Below w.heap.size w w2 := hB1.trans (hb2.mono hB1.size)
  clear hb2 hB1
  go_wp2_with fail
  refine (truncateOf_any a0 a1 a2 f r _ h0 h1 h2 F.out R.out).mono ?_
  rintro e w3 ⟨rfl, hb3⟩
  have hB3 : Below w.heap.size w w3 := hB2.trans (hb3.mono hB2.size)
  clear hb3 hB2
  go_wp2_with fail
  refine (truncateOf_any f r a2 f r _ jf jr h2 F1.out R1.out).mono ?_
  rintro e w4 ⟨rfl, hb4⟩
  have hB4 : Below w.heap.size w w4 := hB3.trans (hb4.mono hB3.size)
  clear hb4 hB3
  go_wp2_with fail
  refine (roundOf_any f r a2 f r _ jf jr h2 F2.out R2.out).mono ?_
  rintro e w5 ⟨rfl, hb5⟩
  have hB5 : Below w.heap.size w w5 := hB4.trans (hb5.mono hB4.size)
  clear hb5 hB4
  go_wp2_with fail
  refine (Sp.subOf_any a0 a1 f r m _ h0 h1 jf jr B.out).mono ?_
  rintro e w6 ⟨rfl, hb6⟩
  have hB6 : Below w.heap.size w w6 := hB5.trans (hb6.mono hB5.size)
  clear hb6 hB5
  go_wp2
  go_ret
  exact ⟨rfl, hB6⟩

set_option maxRecDepth 100000 in
theorem lifted (os : Os) (started : os.Started) (H : Type) (enc : TypeId × Value → H) :
    ReturnsInHanded {} Try.checked os 7 .any (Rows.fnTruncateTwiceSpec.pre6 enc Try.prog Try.f7 Rows.fnTruncateTwiceRow.domain false) (Rows.fnTruncateTwiceSpec.post enc Try.prog Try.f7 false true false false) := by
  refine returnsInHanded_of_change (C := Try.checked) own started (by kernel_rfl) Try.func7
    (ChangeSpec.witness6 (enc := enc) (C := Try.checked) false ⟨#[], #[.int .i64 0, .int .i64 0, .int .i64 0], []⟩ 8 (by kernel_rfl) (by kernel_rfl) (by kernel_rfl) (by kernel_rfl)) ?_
  intro W base args ds gs before hval0 hW hcnd _
  have hval : ∀ (j : Nat) t v, Try.f7.params[j]? = some t → args[j]? = some v → Value.okWide Try.prog W .any base t v := hval0
  have hW' := hW
  obtain ⟨p, q, hA0, hV, rfl, hfz, hnd⟩ := hW
  have hA : DataW.TrodAll enc Try.prog W 0 (fun _ => true) true Try.f7.params.toList args.toList ds p := hA0
  rw [Try.params7] at hA hval
  obtain ⟨v0, vs0, d0, ds0, p0, q0, hargs, rfl, rfl, h0, r0⟩ := trodAll_cons hA
  obtain ⟨v1, vs1, d1, ds1, p1, q1, rfl, rfl, rfl, h1, r1⟩ := trodAll_cons r0
  obtain ⟨v2, vs2, d2, ds2, p2, q2, rfl, rfl, rfl, h2, r2⟩ := trodAll_cons r1
  obtain ⟨rfl, rfl, rfl⟩ := trodAll_nil r2
  obtain rfl : args = #[v0, v1, v2] := by cases args; simp_all
  obtain ⟨rfl, rfl⟩ := trodVars_none hV
  obtain ⟨a0, rfl, rfl, rfl, w0⟩ := open_int Try.underlying2 (hval 0 2 v0 rfl rfl) h0
  obtain ⟨a1, rfl, rfl, rfl, w1⟩ := open_int Try.underlying2 (hval 1 2 v1 rfl rfl) h1
  obtain ⟨a2, rfl, rfl, rfl, w2⟩ := open_int Try.underlying2 (hval 2 2 v2 rfl rfl) h2
  clear hA0 hval0
  refine (walk a0 a1 a2 W (i64_of_wf w0) (i64_of_wf w1) (i64_of_wf w2)).mono fun e W' ⟨he, bel⟩ => ?_
  subst he
  exact ⟨_, rfl, _, _, _, [], _, [], hW', trodAll_mk1 (shut_bool Try.underlying4 _), (trodAll_cons_mk (shut_int Try.underlying2 w0) (trodAll_cons_mk (shut_int Try.underlying2 w1) (trodAll_cons_mk (shut_int Try.underlying2 w2) trodAll_mk0))), rfl, bel.frame _, fun h => by cases h⟩

theorem proved : Rows.FnTruncateTwiceSaid :=
  OpenClaim.holds_of_wide 7 Try.f7 rfl rfl rfl rfl rfl rfl rfl ⟨rfl, rfl, rfl, rfl, rfl⟩ rfl rfl rfl rfl rfl (by kernel_rfl) Try.func7 (by kernel_rfl)
    (of_decide_eq_true (by kernel_rfl)) (by unfold Func.isWrapper; first | (rw [if_pos (by decide +kernel)]; kernel_rfl) | (rw [if_neg (by decide +kernel)]; exact ⟨rfl, rfl⟩))
    (fun os started H enc _ => lifted os started H enc)
#print axioms proved
end Go.Proofs.Ytmdhpkhmmnmdlaa.fnTruncateTwice
