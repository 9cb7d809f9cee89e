/-
  For all arguments of 64 bits a duration away from the zero time Round rounds to the nearest multiple, up if two are: the law FnRoundOne returns true and changes nothing.
-/
import Derived.Test.YtllhfhgjhchlbaaRows
import Derived.Test.YtllhfhgjhchlbaaLaw
import Derived.Test.YtllhfhgjhchlbaaApi
import Derived.Test.YtllhfhgjhchlbaaPlainB
import Derived.Test.YtllhfhgjhchlbaaDown
import Derived.WalkKit
import Derived.ProofKit
import Derived.OpenShut
import Derived.ShutString
import Derived.ChangeOld
import Derived.Below
namespace Go.Proofs.Ytllhfhgjhchlbaa.fnRoundOne
open Go.ChangeShapes Go.WideShapes Go.ChangeAt Go.RowKit
set_option linter.unusedVariables false

theorem own : ownKnob Try.prog.godebug = none := by kernel_rfl
theorem laidOut : laidOutB Try.prog = true := by kernel_rfl

set_option maxHeartbeats 4000000 in
theorem walk (a0 : Int) (a1 : Int) (w : World) (h0 : Plain.I64 a0) (h1 : Plain.I64 a1) :
    Calls Try.prog 12 #[.int .i64 a0, .int .i64 a1] w fun e w' => e = .returned (.bool true) ∧ Below w.heap.size w w' := by
  have i0 : Plain.I64 0 := by unfold Plain.I64; omega
  obtain ⟨l0, u0⟩ : -9223372036854775808 ≤ a0 ∧ a0 ≤ 9223372036854775807 := ⟨h0.1, h0.2⟩
  obtain ⟨l1, u1⟩ : -9223372036854775808 ≤ a1 ∧ a1 ≤ 9223372036854775807 := ⟨h1.1, h1.2⟩
  by_cases c : a1 ≤ 0
  · have hB0 : Below w.heap.size w w := Below.refl _ w
    go_enter Try.func12, Try.ntmps12
    go_wp2
    go_ret
    exact ⟨rfl, hB0⟩
  have d0 : 0 < a1 := by omega
  clear c
  by_cases p : 0 ≤ a0
  · obtain ⟨m, hm⟩ : ∃ m, a0 % a1 = m := ⟨_, rfl⟩
    obtain ⟨m0, m1⟩ : 0 ≤ m ∧ m < a1 := by rw [← hm]; exact Plain.mod_bd _ d0
    have me : m ≤ a0 := by
      have x1 := Int.mul_ediv_add_emod a0 a1
      have x2 : 0 ≤ a1 * (a0 / a1) := Int.mul_nonneg (by omega) (Int.ediv_nonneg p (by omega))
      omega
    have M := Lib.hid (show (a0 + 0) % a1 = m by rw [Int.add_zero]; exact hm)
    by_cases z : m < a1 - m
    · have e1 : Plain.near (a0 + 0) a1 = a0 - m := by rw [Plain.near_lt d0 (by rw [M.out]; omega), M.out]; omega
      have F := Lib.hid (show a0 - m = Plain.cl (Plain.near (a0 + 0) a1) by rw [e1, Plain.cl_in (by omega) (by omega)])
      have R := Lib.hid (show 0 = Plain.p2 (Plain.near (a0 + 0) a1) by rw [e1, Plain.p2_zero (by omega) (by omega)])
      clear e1
      have hB0 : Below w.heap.size w w := Below.refl _ w
      go_enter Try.func12, Try.ntmps12
      go_wp2_with fail
      refine (roundOf_any a0 0 a1 (a0 - m) 0 _ h0 i0 h1 F.out R.out).mono ?_
      rintro e w1 ⟨rfl, hb1⟩
      have hB1 : Below w.heap.size w w1 := hB0.trans (hb1.mono hB0.size)
      clear hb1 hB0
      go_wp2
      go_ret
      exact ⟨rfl, hB1⟩
    · by_cases c : 9223372036854775807 - (a1 - m) < a0
      · have hB0 : Below w.heap.size w w := Below.refl _ w
        go_enter Try.func12, Try.ntmps12
        go_wp2
        go_ret
        exact ⟨rfl, hB0⟩
      have e1 : Plain.near (a0 + 0) a1 = a0 + (a1 - m) := by rw [Plain.near_ge d0 (by rw [M.out]; omega), M.out]; omega
      have F := Lib.hid (show a0 + (a1 - m) = Plain.cl (Plain.near (a0 + 0) a1) by rw [e1, Plain.cl_in (by omega) (by omega)])
      have R := Lib.hid (show 0 = Plain.p2 (Plain.near (a0 + 0) a1) by rw [e1, Plain.p2_zero (by omega) (by omega)])
      clear e1
      have hB0 : Below w.heap.size w w := Below.refl _ w
      go_enter Try.func12, Try.ntmps12
      go_wp2_with fail
      refine (roundOf_any a0 0 a1 (a0 + (a1 - m)) 0 _ h0 i0 h1 F.out R.out).mono ?_
      rintro e w1 ⟨rfl, hb1⟩
      have hB1 : Below w.heap.size w w1 := hB0.trans (hb1.mono hB0.size)
      clear hb1 hB0
      go_wp2
      go_ret
      exact ⟨rfl, hB1⟩
  obtain ⟨n, hn⟩ : ∃ n, a0.tmod a1 = n := ⟨_, rfl⟩
  have tn : n = -(-a0 % a1) := by
    rw [← hn]
    have e : a0.tmod a1 = -((-a0).tmod a1) := by rw [Int.neg_tmod, Int.neg_neg]
    rw [e, Int.tmod_eq_emod_of_nonneg (by omega)]
  have tb := Plain.mod_bd (-a0) d0
  have tv := Int.mul_ediv_add_emod (-a0) a1
  by_cases q : n < 0
  · have M := Lib.hid (show (a0 + 0) % a1 = n + a1 by
      have e : a0 + 0 = (n + a1) + a1 * (-(-a0 / a1) - 1) := by rw [Int.mul_sub, Int.mul_neg]; omega
      rw [e, Int.add_mul_emod_self_left, Int.emod_eq_of_lt (by omega) (by omega)])
    have q1 : -a1 < n := by omega
    clear tn tb tv
    by_cases z : (n + a1) < a1 - (n + a1)
    · by_cases c : a0 < -9223372036854775808 + (n + a1)
      · have hB0 : Below w.heap.size w w := Below.refl _ w
        go_enter Try.func12, Try.ntmps12
        go_wp2
        go_ret
        exact ⟨rfl, hB0⟩
      have e1 : Plain.near (a0 + 0) a1 = a0 - (n + a1) := by rw [Plain.near_lt d0 (by rw [M.out]; omega), M.out]; omega
      have F := Lib.hid (show a0 - (n + a1) = Plain.cl (Plain.near (a0 + 0) a1) by rw [e1, Plain.cl_in (by omega) (by omega)])
      have R := Lib.hid (show 0 = Plain.p2 (Plain.near (a0 + 0) a1) by rw [e1, Plain.p2_zero (by omega) (by omega)])
      clear e1
      have hB0 : Below w.heap.size w w := Below.refl _ w
      go_enter Try.func12, Try.ntmps12
      go_wp2_with fail
      refine (roundOf_any a0 0 a1 (a0 - (n + a1)) 0 _ h0 i0 h1 F.out R.out).mono ?_
      rintro e w1 ⟨rfl, hb1⟩
      have hB1 : Below w.heap.size w w1 := hB0.trans (hb1.mono hB0.size)
      clear hb1 hB0
      go_wp2
      go_ret
      exact ⟨rfl, hB1⟩
    · have c : ¬ 9223372036854775807 - (a1 - (n + a1)) < a0 := by omega
      have e1 : Plain.near (a0 + 0) a1 = a0 + (a1 - (n + a1)) := by rw [Plain.near_ge d0 (by rw [M.out]; omega), M.out]; omega
      have F := Lib.hid (show a0 + (a1 - (n + a1)) = Plain.cl (Plain.near (a0 + 0) a1) by rw [e1, Plain.cl_in (by omega) (by omega)])
      have R := Lib.hid (show 0 = Plain.p2 (Plain.near (a0 + 0) a1) by rw [e1, Plain.p2_zero (by omega) (by omega)])
      clear e1
      have hB0 : Below w.heap.size w w := Below.refl _ w
      go_enter Try.func12, Try.ntmps12
      go_wp2_with fail
      refine (roundOf_any a0 0 a1 (a0 + (a1 - (n + a1))) 0 _ h0 i0 h1 F.out R.out).mono ?_
      rintro e w1 ⟨rfl, hb1⟩
      have hB1 : Below w.heap.size w w1 := hB0.trans (hb1.mono hB0.size)
      clear hb1 hB0
      go_wp2
      go_ret
      exact ⟨rfl, hB1⟩
  · obtain rfl : n = 0 := by omega
    have M := Lib.hid (show (a0 + 0) % a1 = 0 by
      have e : a0 + 0 = 0 + a1 * (-(-a0 / a1)) := by rw [Int.mul_neg]; omega
      rw [e, Int.add_mul_emod_self_left]; rfl)
    clear tn tb tv
    by_cases z : 0 < a1
    · have e1 : Plain.near (a0 + 0) a1 = a0 := by rw [Plain.near_lt d0 (by rw [M.out]; omega), M.out]; omega
      have F := Lib.hid (show a0 = Plain.cl (Plain.near (a0 + 0) a1) by rw [e1, Plain.cl_in (by omega) (by omega)])
      have R := Lib.hid (show 0 = Plain.p2 (Plain.near (a0 + 0) a1) by rw [e1, Plain.p2_zero (by omega) (by omega)])
      clear e1
      have hB0 : Below w.heap.size w w := Below.refl _ w
      go_enter Try.func12, Try.ntmps12
      go_wp2_with fail
      refine (roundOf_any a0 0 a1 (a0) 0 _ h0 i0 h1 F.out R.out).mono ?_
      rintro e w1 ⟨rfl, hb1⟩
      have hB1 : Below w.heap.size w w1 := hB0.trans (hb1.mono hB0.size)
      clear hb1 hB0
      go_wp2
      go_ret
      exact ⟨rfl, hB1⟩
    · omega

set_option maxRecDepth 100000 in
theorem lifted (os : Os) (started : os.Started) (H : Type) (enc : TypeId × Value → H) :
    ReturnsInHanded {} Try.checked os 12 .any (Rows.fnRoundOneSpec.pre6 enc Try.prog Try.f12 Rows.fnRoundOneRow.domain false) (Rows.fnRoundOneSpec.post enc Try.prog Try.f12 false true false false) := by
  refine returnsInHanded_of_change (C := Try.checked) own started (by kernel_rfl) Try.func12
    (ChangeSpec.witness6 (enc := enc) (C := Try.checked) false ⟨#[], #[.int .i64 0, .int .i64 0], []⟩ 8 (by kernel_rfl) (by kernel_rfl) (by kernel_rfl) (by kernel_rfl)) ?_
  intro W base args ds gs before hval0 hW hcnd _
  have hval : ∀ (j : Nat) t v, Try.f12.params[j]? = some t → args[j]? = some v → Value.okWide Try.prog W .any base t v := hval0
  have hW' := hW
  obtain ⟨p, q, hA0, hV, rfl, hfz, hnd⟩ := hW
  have hA : DataW.TrodAll enc Try.prog W 0 (fun _ => true) true Try.f12.params.toList args.toList ds p := hA0
  rw [Try.params12] at hA hval
  obtain ⟨v0, vs0, d0, ds0, p0, q0, hargs, rfl, rfl, h0, r0⟩ := trodAll_cons hA
  obtain ⟨v1, vs1, d1, ds1, p1, q1, rfl, rfl, rfl, h1, r1⟩ := trodAll_cons r0
  obtain ⟨rfl, rfl, rfl⟩ := trodAll_nil r1
  obtain rfl : args = #[v0, v1] := by cases args; simp_all
  obtain ⟨rfl, rfl⟩ := trodVars_none hV
  obtain ⟨a0, rfl, rfl, rfl, w0⟩ := open_int Try.underlying2 (hval 0 2 v0 rfl rfl) h0
  obtain ⟨a1, rfl, rfl, rfl, w1⟩ := open_int Try.underlying2 (hval 1 2 v1 rfl rfl) h1
  clear hA0 hval0
  refine (walk a0 a1 W (i64_of_wf w0) (i64_of_wf w1)).mono fun e W' ⟨he, bel⟩ => ?_
  subst he
  exact ⟨_, rfl, _, _, _, [], _, [], hW', trodAll_mk1 (shut_bool Try.underlying4 _), (trodAll_cons_mk (shut_int Try.underlying2 w0) (trodAll_cons_mk (shut_int Try.underlying2 w1) trodAll_mk0)), rfl, bel.frame _, fun h => by cases h⟩

theorem proved : Rows.FnRoundOneSaid :=
  OpenClaim.holds_of_wide 12 Try.f12 rfl rfl rfl rfl rfl rfl rfl ⟨rfl, rfl, rfl, rfl, rfl⟩ rfl rfl rfl rfl rfl (by kernel_rfl) Try.func12 (by kernel_rfl)
    (of_decide_eq_true (by kernel_rfl)) (by unfold Func.isWrapper; first | (rw [if_pos (by decide +kernel)]; kernel_rfl) | (rw [if_neg (by decide +kernel)]; exact ⟨rfl, rfl⟩))
    (fun os started H enc _ => lifted os started H enc)
#print axioms proved
end Go.Proofs.Ytllhfhgjhchlbaa.fnRoundOne
