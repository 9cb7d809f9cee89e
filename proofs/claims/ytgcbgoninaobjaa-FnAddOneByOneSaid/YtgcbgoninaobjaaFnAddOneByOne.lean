/-
  For all arguments of 64 bits two durations, added one after the other by either function, reach the same instant, and a duration of 0 changes nothing: the law FnAddOneByOne returns true and changes nothing.
-/
import Derived.Test.YtgcbgoninaobjaaRows
import Derived.Test.YtgcbgoninaobjaaLaw
import Derived.Test.YtgcbgoninaobjaaApi
import Derived.Test.YtgcbgoninaobjaaListI
import Derived.WalkKit
import Derived.ProofKit
import Derived.OpenShut
import Derived.ShutString
import Derived.ChangeOld
import Derived.Below
namespace Go.Proofs.Ytgcbgoninaobjaa.fnAddOneByOne
open Go.ChangeShapes Go.WideShapes Go.ChangeAt Go.RowKit
set_option linter.unusedVariables false

theorem own : ownKnob Try.prog.godebug = none := by kernel_rfl
theorem laidOut : laidOutB Try.prog = true := by kernel_rfl

set_option maxHeartbeats 4000000 in
theorem walk (a0 : Int) (a1 : Int) (w : World) (h0 : Plain.I64 a0) (h1 : Plain.I64 a1) :
    Calls Try.prog 13 #[.int .i64 a0, .int .i64 a1] w fun e w' => e = .returned (.bool true) ∧ Below w.heap.size w w' := by
  have i0 : Plain.I64 0 := by unfold Plain.I64; omega
  obtain ⟨f, F⟩ : ∃ f, Hid (f = Plain.cl (a0 + a1)) := ⟨_, Lib.hid rfl⟩
  obtain ⟨r, R⟩ : ∃ r, Hid (r = Plain.p2 (a0 + a1)) := ⟨_, Lib.hid rfl⟩
  have F2 := Lib.hid (show f = Plain.cl (a0 + 0 + a1) by rw [Int.add_zero]; exact F.out)
  have R2 := Lib.hid (show r = Plain.p2 (a0 + 0 + a1) by rw [Int.add_zero]; exact R.out)
  have hB0 : Below w.heap.size w w := Below.refl _ w
  go_enter Try.func13, Try.ntmps13
  go_wp2_with fail
  refine (addAll_three a0 0 a1 f r _ _ ?_ ?_ ?_ ?_ h0 i0 h1 F2.out R2.out).mono ?_
  · simp
  · simp
  · simp
  · simp
  rintro e w1 ⟨rfl, hb1⟩
  have hB1 : Below w.heap.size w w1 := (hB0.alloc hB0.size _).trans (hb1.mono (Nat.le_trans hB0.size (by simp)))
  clear hb1 hB0
  go_wp2_with fail
  refine (addTo_any a0 a1 f r _ h0 h1 F.out R.out).mono ?_
  rintro e w2 ⟨rfl, hb2⟩
  have hB2 : Below w.heap.size w w2 := hB1.trans (hb2.mono hB1.size)
  clear hb2 hB1
  go_wp2_with fail
  refine (Sp.addTo_any a0 a1 f r _ h0 h1 F.out R.out).mono ?_
  rintro e w3 ⟨rfl, hb3⟩
  have hB3 : Below w.heap.size w w3 := hB2.trans (hb3.mono hB2.size)
  clear hb3 hB2
  go_wp2
  go_ret
  exact ⟨rfl, hB3⟩

set_option maxRecDepth 100000 in
theorem lifted (os : Os) (started : os.Started) (H : Type) (enc : TypeId × Value → H) :
    ReturnsInHanded {} Try.checked os 13 .any (Rows.fnAddOneByOneSpec.pre6 enc Try.prog Try.f13 Rows.fnAddOneByOneRow.domain false) (Rows.fnAddOneByOneSpec.post enc Try.prog Try.f13 false true false false) := by
  refine returnsInHanded_of_change (C := Try.checked) own started (by kernel_rfl) Try.func13
    (ChangeSpec.witness6 (enc := enc) (C := Try.checked) false ⟨#[], #[.int .i64 0, .int .i64 0], []⟩ 8 (by kernel_rfl) (by kernel_rfl) (by kernel_rfl) (by kernel_rfl)) ?_
  intro W base args ds gs before hval0 hW hcnd _
  have hval : ∀ (j : Nat) t v, Try.f13.params[j]? = some t → args[j]? = some v → Value.okWide Try.prog W .any base t v := hval0
  have hW' := hW
  obtain ⟨p, q, hA0, hV, rfl, hfz, hnd⟩ := hW
  have hA : DataW.TrodAll enc Try.prog W 0 (fun _ => true) true Try.f13.params.toList args.toList ds p := hA0
  rw [Try.params13] at hA hval
  obtain ⟨v0, vs0, d0, ds0, p0, q0, hargs, rfl, rfl, h0, r0⟩ := trodAll_cons hA
  obtain ⟨v1, vs1, d1, ds1, p1, q1, rfl, rfl, rfl, h1, r1⟩ := trodAll_cons r0
  obtain ⟨rfl, rfl, rfl⟩ := trodAll_nil r1
  obtain rfl : args = #[v0, v1] := by cases args; simp_all
  obtain ⟨rfl, rfl⟩ := trodVars_none hV
  obtain ⟨a0, rfl, rfl, rfl, w0⟩ := open_int Try.underlying2 (hval 0 2 v0 rfl rfl) h0
  obtain ⟨a1, rfl, rfl, rfl, w1⟩ := open_int Try.underlying2 (hval 1 2 v1 rfl rfl) h1
  clear hA0 hval0
  refine (walk a0 a1 W (i64_of_wf w0) (i64_of_wf w1)).mono fun e W' ⟨he, bel⟩ => ?_
  subst he
  exact ⟨_, rfl, _, _, _, [], _, [], hW', trodAll_mk1 (shut_bool Try.underlying4 _), (trodAll_cons_mk (shut_int Try.underlying2 w0) (trodAll_cons_mk (shut_int Try.underlying2 w1) trodAll_mk0)), rfl, bel.frame _, fun h => by cases h⟩

theorem proved : Rows.FnAddOneByOneSaid :=
  OpenClaim.holds_of_wide 13 Try.f13 rfl rfl rfl rfl rfl rfl rfl ⟨rfl, rfl, rfl, rfl, rfl⟩ rfl rfl rfl rfl rfl (by kernel_rfl) Try.func13 (by kernel_rfl)
    (of_decide_eq_true (by kernel_rfl)) (by unfold Func.isWrapper; first | (rw [if_pos (by decide +kernel)]; kernel_rfl) | (rw [if_neg (by decide +kernel)]; exact ⟨rfl, rfl⟩))
    (fun os started H enc _ => lifted os started H enc)
#print axioms proved
end Go.Proofs.Ytgcbgoninaobjaa.fnAddOneByOne
